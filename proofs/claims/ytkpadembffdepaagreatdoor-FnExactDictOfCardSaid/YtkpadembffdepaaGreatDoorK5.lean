/- Parts of the proof of the card: Sg Sh Si Bs Ih Bt Eo Ij Ik Bu Il Ii Ja Jb Lb Lc Ld -/
import Derived.Test.YtkpadembffdepaaGreatDoorK4
import Derived.Test.YtkpadembffdepaaGreatDoorK2
import Derived.Test.YtkpadembffdepaaGreatDoorK3
import Derived.Test.YtkpadembffdepaaGreatDoorK1
import Derived.Test.YtkpadembffdepaaGreatDoorCards
import Derived.Test.YtkpadembffdepaaGreatDoorTie
import Derived.WalkKit
import Derived.ProofKit
import Derived.OpenShut
import Derived.Deep.DeepHandedRow
import Derived.Deep.Modes
import Derived.Deep.Frames
import Derived.Lib.LaidTab
import Derived.LaidHandle
import Derived.ChangeVars
import Derived.LaidByText
set_option maxRecDepth 100000
set_option maxHeartbeats 4000000
set_option linter.unusedVariables false
set_option linter.unusedSimpArgs false
namespace Go.Eng
open Go Go.Proofs Go.Infl
theorem acc_at {acc : List Nat} {j : Nat} (h : j < acc.length) : (acc.map i64)[j]? = some (i64 (acc.getD j 0)) := by
 rw [List.getElem?_map, List.getD_eq_getElem?_getD, List.getElem?_eq_getElem h]; rfl
theorem rnMany_le {k v : Nat} (h : k < 19) (hv : v < 2 ^ rnBits k) : rnMany k v ≤ 139 := by
 rcases Nat.lt_or_ge k 16 with h1 | h1
 ·
  rw [(rn16 h1 v).2.1]; decide
 obtain ⟨e, h2, h3⟩ := rnMany_ge h1 h v
 have : 2 ^ rnBits k ≤ 2 ^ 7 := Nat.pow_le_pow_right (by decide) h3
 omega
theorem t99_o {p at_ many : Nat} {sv dv : Value} {B : List Bool} {out : List Nat} (A : HProp) (own : List Nat) (lb lo lc : Nat) (hR : ∀ {G w : World} {L : List HProp}, A ∈ L → Sat G w L → ∀ j x, own[j]? = some x → w.cell? ⟨lb, lo + j, none⟩ = some (i64 x)) (hls : own.length ≤ 1024) (h15 : ∀ x ∈ own, x ≤ 15) {G : World} {R : List HProp} {w : World} (hS : Sat G w ((Sp p sv (B) at_ dv out 2) :: A :: R)) :
 CallsR Tryz.prog 99 #[(pt p 0), (i64 many), (.slice (some ⟨lb, lo, none⟩) own.length lc)] w (fun v w' => v = .slice none 0 0 ∧ Sat G w' (Sp p sv B at_ dv out 2 :: A :: R)) := by
 refine calls_in (n := 87) [(0, (pt p 0)), (1, (i64 many)), (2, (.slice (some ⟨lb, lo, none⟩) own.length lc))] Tryz.func99 rfl rfl hS args3 ?_
 refine CT.q (TL.val (r_asg .c) (TL.q (TL.m m3 (TL.perm p1 (TL.call (r_call ce_92 (.cons T0 .nil)) (fun w hS => t92_o A own lb lo lc hR hls h15 hS) ?_)))))
 rintro _ w13 ⟨mb, fm, sz, rfl, hS⟩
 refine TW.at hS (TL.a m0 (TL.r (.hd (.tl (.tl (.hd (.hd (.hd .u1)))))) (TL.val (r_asg .c) (TL.e (CT.seq (CT.block (CT.conv (fun _ h => h.tail) ?_)))))))
 refine CT.perm p1 (CT.loop (X := Unit) (fun gx => [(8, (.slice none 0 0)), (7, (.map (some mb))), (0, (pt p 0)), (1, (i64 many))]) (fun gx => (Sp p sv (B) at_ dv out 2) :: A :: R) (fun gx => True) (fun gx => 0) () trivial (.refl _) (.cons m0 (.cons m1 (.cons m3 (.cons m4 .nil)))) ?_)
 rintro u -
 show CT _ _ _ [(8, (.slice none 0 0)), (7, (.map (some mb))), (0, (pt p 0)), (1, (i64 many))] _ _ ((Sp p sv (B) at_ dv out 2) :: A :: R)
 refine CT.seq (CT.q (TL.m m0 (TL.val (r_len Tryz.underlying42 T0) (TL.m m5 (TL.val (n_lss 0 many T1 T0) (TL.m m0 ?_))))))
 by_cases g18 : 0 < many
 ·
  refine TL.sub (.eq m0 (congrArg Value.bool (decide_eq_true g18)) (.eq m1 (congrArg Value.bool (decide_eq_true g18)) (.cons m2 (.cons m3 (.cons m4 (.cons m5 (.cons m6 (.cons m7 (.cons m8 .nil))))))))) (TL.gv m0 (r_move T7) (TL.gcall m1 (r_call ce_47 (.cons T0 .nil)) (fun w hS => t47 (r := false) (by decide) hS) ?_))
  rintro _ w20 ⟨rfl, hS⟩
  refine TW.at hS (TL.val (r_pickt T2 T0) (TL.b (.hd .u7) (CT.iff_ m0 ?_)))
  exact CT.sub .u1 (CT.exit (EX.then_exit (EX.then_exit (EX.out (EX.q (TL.m m0 (TL.a m0 (TL.b (.hd .u1) (CT.ret (EX.perm p1 (EX.perm p1 (EX.end_ (.inl rfl) (res1 Tryz.results99 m0) (fun _ hS => ⟨rfl, hS⟩)))))))))))))
 refine TL.sub (.eq m0 (congrArg Value.bool (decide_eq_false g18)) (.eq m1 (congrArg Value.bool (decide_eq_false g18)) (.cons m2 (.cons m3 (.cons m4 (.cons m5 (.cons m6 (.cons m7 (.cons m8 .nil))))))))) (TL.gn m0 (TL.gn m0 (TL.val (r_pickf T0 .c) (TL.b (.hd .u5) (CT.iff_ m0 ?_)))))
 exact CT.sub .u1 (CT.exit (EX.then_exit (EX.then_exit (EX.out (EX.q (TL.m m0 (TL.a m0 (TL.b (.hd .u1) (CT.ret (EX.perm p1 (EX.perm p1 (EX.end_ (.inl rfl) (res1 Tryz.results99 m0) (fun _ hS => ⟨rfl, hS⟩)))))))))))))
theorem t99 {p at_ nl nd : Nat} {sv dv : Value} {B : List Bool} {out : List Nat} {o : Option (List Nat × List Nat × List Bool)} (A : HProp) (own : List Nat) (lb lo lc : Nat) (hR : ∀ {G w : World} {L : List HProp}, A ∈ L → Sat G w L → ∀ j x, own[j]? = some x → w.cell? ⟨lb, lo + j, none⟩ = some (i64 x)) (hls : own.length ≤ 1024) (h15 : ∀ x ∈ own, x ≤ 15) (h19 : own.length = 19) (hfu : Full own) (hrr : RunR own nl nd [] (B.drop at_) o) (hat : at_ ≤ B.length) (hBl : B.length < 1099511627776) (hnn : nl + nd ≤ 316) {G : World} {R : List HProp} {w : World} (hS : Sat G w ((Sp p sv (B) at_ dv out ((-1))) :: A :: R)) :
 CallsR Tryz.prog 99 #[(pt p 0), (i64 (nl + nd)), (.slice (some ⟨lb, lo, none⟩) own.length lc)] w (fun v w' => ∃ (kk : Nat) (acc : List Nat), kk ≤ B.length ∧ at_ ≤ kk ∧ ((o = none ∧ Sat G w' (Sp p sv B kk dv out 2 :: A :: R)) ∨ (acc.length = nl + nd ∧ RunR own nl nd acc (B.drop kk) o ∧ Sat G w' (Sp p sv B kk dv out (-1) :: slc 1 v acc.length (acc.map i64) :: A :: R)))) := by
 refine calls_in (n := 87) [(0, (pt p 0)), (1, (i64 (nl + nd))), (2, (.slice (some ⟨lb, lo, none⟩) own.length lc))] Tryz.func99 rfl rfl hS args3 ?_
 refine CT.q (TL.val (r_asg .c) (TL.q (TL.m m3 (TL.perm p1 (TL.call (r_call ce_92 (.cons T0 .nil)) (fun w hS => t92 A own lb lo lc hR hls h15 hfu.fits hS) ?_)))))
 rintro _ w13 ⟨mb, rfl, hS⟩
 refine TW.at hS (TL.conv (fun _ h => bk_of_p (usedN_two hfu) h) (TL.a m0 (TL.r (.hd (.tl (.tl (.hd (.hd (.hd .u1)))))) (TL.val (r_asg .c) (TL.e (CT.seq (CT.block (CT.nilslc 1 ?_))))))))
 refine CT.fold (A' := (slc 1 (.slice none 0 0) (([] : List Nat).length) (([] : List Nat).map i64))) a0 (slc_eq rfl rfl) (CT.fold (A' := (Sp p sv (B) at_ dv out (cond false 2 (-1)))) a3 (Sp_eq rfl rfl) (CT.perm p1 (CT.perm p2 (CT.perm p2 (CT.perm p3 (CT.loop (X := Bool × Nat × List Nat × Value) (fun gx => [(8, gx.2.2.2), (7, (.map (some mb))), (0, (pt p 0)), (1, (i64 (nl + nd)))]) (fun gx => (Sp p sv (B) gx.2.1 dv out (cond gx.1 2 (-1))) :: slc 1 gx.2.2.2 ((gx.2.2.1).length) ((gx.2.2.1).map i64) :: A :: (Bk mb own) :: R) (fun gx => (gx.1 = false → RunR own nl nd gx.2.2.1 (B.drop gx.2.1) o ∧ (gx.2.2.1).length ≤ nl + nd) ∧ (gx.1 = true → o = none) ∧ gx.2.1 ≤ B.length ∧ at_ ≤ gx.2.1 ∧ (gx.2.2.1).length ≤ 1000) (fun gx => cond gx.1 0 (1 + (nl + nd - (gx.2.2.1).length))) ((false, at_, ([] : List Nat), (.slice none 0 0))) (⟨fun _ => ⟨hrr, Nat.zero_le _⟩, (fun h => by cases h), hat, Nat.le_refl _, Nat.zero_le _⟩) (.refl _) (.cons m0 (.cons m1 (.cons m3 (.cons m4 .nil)))) ?_))))))
 rintro ⟨bad, kk, acc, v⟩ ⟨hJ1, hJ2, hJ3, hJ4, hJ5⟩
 show CT _ _ _ [(8, v), (7, (.map (some mb))), (0, (pt p 0)), (1, (i64 (nl + nd)))] _ _ ((Sp p sv (B) kk dv out (cond bad 2 (-1))) :: slc 1 v ((acc).length) ((acc).map i64) :: A :: (Bk mb own) :: R)
 replace hJ1 : bad = false → RunR own nl nd acc (B.drop kk) o ∧ acc.length ≤ nl + nd := hJ1
 replace hJ2 : bad = true → o = none := hJ2
 replace hJ3 : kk ≤ B.length := hJ3
 replace hJ4 : at_ ≤ kk := hJ4
 replace hJ5 : acc.length ≤ 1000 := hJ5
 refine CT.seq (CT.q (TL.m m0 (TL.val (r_lens Tryz.underlying42 T0 m1) (TL.m m5 (TL.val (n_lss ((acc).length) ((nl + nd)) T1 T0) (TL.m m0 ?_))))))
 by_cases g18 : (acc).length < (nl + nd)
 ·
  refine TL.sub (.eq m0 (congrArg Value.bool (decide_eq_true g18)) (.eq m1 (congrArg Value.bool (decide_eq_true g18)) (.cons m2 (.cons m3 (.cons m4 (.cons m5 (.cons m6 (.cons m7 (.cons m8 .nil))))))))) (TL.gv m0 (r_move T7) (TL.gcall m1 (r_call ce_47 (.cons T0 .nil)) (fun w hS => t47 (r := (!bad)) (by cases bad <;> rfl) hS) ?_))
  rintro _ w20 ⟨rfl, hS⟩
  refine TW.at hS (TL.val (r_pickt T2 T0) (TL.b (.hd .u7) (CT.iff m0 (fun c21 => ?_) (fun c21 => ?_))))
  ·
   obtain rfl : bad = false := by simpa using c21
   obtain ⟨hI6, hI4⟩ := hJ1 rfl
   obtain ⟨x, u, rest, hbx, hok, hv, hcs⟩ := hI6.step g18
   have hlx := congrArg List.length hbx
   simp only [List.length_drop, List.length_append, symB_length, nbits_length] at hlx
   have hx18 : x < 19 := by have := hok.1; omega
   have hlk1 := hok.2.1; have hlk2 := hok.2.2
   have hdr := drop_app hbx
   rw [symB_length] at hdr
   refine CT.z (EX.seq (CT.block (CT.q (TL.m m2 (TL.m m2 (TL.perm p3 (TL.perm p1 (TL.call (r_call ce_93 (.cons T1 (.cons T0 .nil))) (fun w hS => t93 (by omega) hfu.fits hok hbx hS) ?_))))))))
   rintro _ w24 ⟨rfl, hS⟩
   refine TW.at hS (TL.a m0 (TL.r (.hd .u3) (TL.m m0 (TL.val (r_asg .c) (TL.a m1 (TL.b (.hd (.hd .u1)) (CT.cut (X := Unit) (fun gx => [(11, (i64 (rnVal acc x))), (10, (i64 (rnMany x u))), (9, (i64 x)), (8, v), (7, (.map (some mb))), (0, (pt p 0)), (1, (i64 (nl + nd)))]) (fun gx => (Sp p sv (B) (kk + own.getD x 0 + rnBits x) dv out ((-1))) :: slc 1 v ((acc).length) ((acc).map i64) :: A :: (Bk mb own) :: R) (fun gx => x = 16 → acc ≠ []) ?_ ?_)))))))
   ·
    refine CT.block (CT.q (TL.m m5 (TL.call (r_call ce_47 (.cons T0 .nil)) (fun w hS => t47 (r := true) (by decide) hS) ?_)))
    rintro _ w28 ⟨rfl, hS⟩
    refine TW.at hS (TL.val (r_nott T0) (TL.a m0 (TL.b (.hd .u3) (CT.iff_ m0 ?_))))
    refine CT.y (TL.m m2 (TL.val (n_eql x 16 T0 .c) (TL.m m0 ?_)))
    by_cases g34 : x = 16
    ·
     refine TL.sub (.eq m0 (congrArg Value.bool (decide_eq_true g34)) (.eq m1 (congrArg Value.bool (decide_eq_true g34)) (.cons m2 (.cons m3 (.cons m4 (.cons m5 (.cons m6 (.cons m7 (.cons m8 (.cons m9 .nil)))))))))) (TL.gv m0 (r_move T6) (TL.gv m1 (r_lens Tryz.underlying42 T0 m2) (TL.gv m2 (n_eql ((acc).length) 0 T0 .c) (TL.val (r_pickt T3 T0) (TL.a m0 (TL.b (.hd .u7) (CT.ifd m0 (fun c31 => ?_) (fun c31 => ?_))))))))
     ·
      have ho : o = none := by rcases hcs with ⟨h, _⟩ | ⟨h, _⟩ <;> first | exact h | exact absurd (List.length_eq_zero_iff.1 c31) (h g34)
      refine CT.y (TL.m m5 (TL.call (r_call ce_49 (.cons T0 (.cons .c .nil))) (fun w hS => t49_1 hS) ?_))
      rintro _ w40 ⟨rfl, hS⟩
      refine TW.at hS (TL.r .u2 (TL.m m3 (TL.a m0 (TL.b (.hd .u1) (CT.ret (EX.bret (EX.then_ret (EX.bret (EX.then_ret (EX.bret (EX.then_ret (EX.perm p3 (EX.perm p1 (EX.perm p2 (EX.conv (fun _ h => h.tail) ?_)))))))))))))))
      refine EX.perm p2 (EX.conv (fun _ h => h.tail) ?_)
      exact EX.perm p1 (EX.perm p1 (EX.end_ (.inl rfl) (res1 Tryz.results99 m0) (fun _ hS => ⟨kk + own.getD x 0, acc, by omega, by omega, .inl ⟨ho, hS⟩⟩)))
     refine CT.y (TL.m m2 (TL.val (n_eql x 16 T0 .c) (TL.a m0 (TL.b (.hd .u2) (CT.ifd m0 (fun c42 => ?_) (fun c42 => ?_))))))
     ·
      have hne0 : ¬ acc.length = 0 := by omega
      obtain ⟨hq1, hq2, hq3⟩ : rnMany x u = 3 + u ∧ rnBits x = 2 ∧ rnVal acc x = acc.getD (acc.length - 1) 0 := by rw [c42]; exact ⟨rfl, rfl, rfl⟩
      have hdrb : B.drop (kk + own.getD x 0) = nbits 2 u ++ rest := by rw [← hq2]; exact hdr
      have hvb : u < 2 ^ 2 := by have h := hv; rw [hq2] at h; exact h
      refine CT.sub .u1 (CT.peek m2 (by omega) ?_)
      intro e e_c e_v e_k e_l
      refine CT.held [(slc 1 v ((acc).length) ((acc).map i64))] fm ?_
      refine TH.t 0 rfl (fun w h => h.only m2) (r_move T5) (TH.t 3 rfl (fun w h => h.only m2) (r_move T4) (TH.t 4 rfl (fun w h => h.only m2) (r_move T5) (TH.t 5 rfl (fun w h => h.only m2) (r_lens Tryz.underlying42 T0 m0) (TH.t 6 rfl (fun w h => h.only m2) (n_sub ((acc).length) 1 9223372036854775808 T0 .c) (TH.t 7 rfl (fun w h => h.only m2) (r_ia (i := ((acc).length - 1)) (off' := ((acc).length - 1)) Tryz.underlying42 Tryz.sizeOf3 (.te m3 e_v) T0 rfl (by omega) (by omega)) (TH.t 8 rfl (fun w h => h.only m2) (r_lds (u := (i64 (acc.getD (((acc).length - 1)) 0))) Tryz.isAgg3 m0 e_v T0 (acc_at (by omega))) (TH.oneC 1 (by kernel_rfl) rfl (r_call ce_72 (.cons T6 (.cons .c .nil))) (fun w hS => t72 u 2 (rest := rest) (by omega) (by decide) hvb hdrb hS) ?_)))))))
      rintro _ w46 ⟨rfl, hS⟩
      refine ⟨hS.only m2, THB.at hS ?_⟩
      refine TH.t 2 rfl (fun w h => h.only m2) (n_add 3 (u) 9223372036854775808 .c T0) (TH.sub (.hd (.hd (.hd (.hd (.hd (.hd (.hd (.hd (.hd (.hd .u1)))))))))) ?_)
      refine TH.t 9 rfl (fun w h => h.only m2) (r_asg T0) (TH.sub (.hd (.hd (.hd (.hd (.hd (.hd (.hd (.hd (.hd (.hd .u1)))))))))) ?_)
      exact TH.t 10 rfl (fun w h => h.only m2) (r_asg T3) (TH.done (by kernel_rfl) (EX.sub (.hd (.hd .u9)) (EX.bnormal (EX.fold (A' := (Sp p sv (B) (kk + own.getD x 0 + rnBits x) dv out ((-1)))) a0 (Sp_eq (by omega) rfl) (EX.perm p1 (EX.perm p3 (EX.perm p3 (EX.perm p3 (EX.meet () (fun _ h => by rw [h] at hne0; exact hne0 rfl) (.refl _) (.eq m0 (congrArg (fun z : Nat => Value.int .i64 (z : Int)) (show ((acc.getD (((acc).length - 1)) 0) : Nat) = (rnVal acc x) by omega)) (.eq m1 (congrArg (fun z : Nat => Value.int .i64 (z : Int)) (show ((3 + u) : Nat) = (rnMany x u) by omega)) (.sl 2 5 rfl))))))))))))
     refine CT.y (TL.m m2 (TL.val (n_eql x 17 T0 .c) (TL.a m0 (TL.b (.hd .u2) (CT.ifd m0 (fun c54 => ?_) (fun c54 => ?_))))))
     ·
      obtain ⟨hq1, hq2, hq3⟩ : rnMany x u = 3 + u ∧ rnBits x = 3 ∧ rnVal acc x = 0 := by rw [c54]; exact ⟨rfl, rfl, rfl⟩
      have hdrb : B.drop (kk + own.getD x 0) = nbits 3 u ++ rest := by rw [← hq2]; exact hdr
      have hvb : u < 2 ^ 3 := by have h := hv; rw [hq2] at h; exact h
      refine CT.sub .u1 (CT.region (TL.m m5 (TL.call (r_call ce_72 (.cons T0 (.cons .c .nil))) (fun w hS => t72 u 3 (rest := rest) (by omega) (by decide) hvb hdrb hS) ?_)))
      rintro _ w58 ⟨rfl, hS⟩
      exact TW.at hS (TL.val (n_add 3 (u) 9223372036854775808 .c T0) (TL.rm .h4 (TL.a m0 (TL.rm .h4 (TL.val (r_asg .c) (TL.x (.hd (.hd .u3)) (EX.bnormal (EX.fold (A' := (Sp p sv (B) (kk + own.getD x 0 + rnBits x) dv out ((-1)))) a0 (Sp_eq (by omega) rfl) (EX.perm p1 (EX.perm p3 (EX.perm p3 (EX.perm p3 (EX.meet () (fun h => absurd h (by omega)) (.refl _) (.eq m0 (congrArg (fun z : Nat => Value.int .i64 (z : Int)) (show (0 : Nat) = (rnVal acc x) by omega)) (.eq m1 (congrArg (fun z : Nat => Value.int .i64 (z : Int)) (show ((3 + u) : Nat) = (rnMany x u) by omega)) (.sl 2 5 rfl))))))))))))))))
     refine CT.y (TL.m m2 (TL.val (n_eql x 18 T0 .c) (TL.a m0 (TL.b (.hd .u2) (CT.ifd m0 (fun c60 => ?_) (fun c60 => ?_))))))
     ·
      obtain ⟨hq1, hq2, hq3⟩ : rnMany x u = 11 + u ∧ rnBits x = 7 ∧ rnVal acc x = 0 := by rw [c60]; exact ⟨rfl, rfl, rfl⟩
      have hdrb : B.drop (kk + own.getD x 0) = nbits 7 u ++ rest := by rw [← hq2]; exact hdr
      have hvb : u < 2 ^ 7 := by have h := hv; rw [hq2] at h; exact h
      refine CT.sub .u1 (CT.region (TL.m m5 (TL.call (r_call ce_72 (.cons T0 (.cons .c .nil))) (fun w hS => t72 u 7 (rest := rest) (by omega) (by decide) hvb hdrb hS) ?_)))
      rintro _ w64 ⟨rfl, hS⟩
      exact TW.at hS (TL.val (n_add 11 (u) 9223372036854775808 .c T0) (TL.rm .h4 (TL.a m0 (TL.rm .h4 (TL.val (r_asg .c) (TL.x (.hd (.hd .u3)) (EX.bnormal (EX.fold (A' := (Sp p sv (B) (kk + own.getD x 0 + rnBits x) dv out ((-1)))) a0 (Sp_eq (by omega) rfl) (EX.perm p1 (EX.perm p3 (EX.perm p3 (EX.perm p3 (EX.meet () (fun h => absurd h (by omega)) (.refl _) (.eq m0 (congrArg (fun z : Nat => Value.int .i64 (z : Int)) (show (0 : Nat) = (rnVal acc x) by omega)) (.eq m1 (congrArg (fun z : Nat => Value.int .i64 (z : Int)) (show ((11 + u) : Nat) = (rnMany x u) by omega)) (.sl 2 5 rfl))))))))))))))))
     have h16 : x < 16 := by omega
     obtain ⟨hq2, hq1, hq4⟩ := rn16 h16 u
     have hq3 := hq4 acc
     exact CT.z (EX.bnormal (EX.fold (A' := (Sp p sv (B) (kk + own.getD x 0 + rnBits x) dv out ((-1)))) a0 (Sp_eq (by omega) rfl) (EX.perm p1 (EX.perm p3 (EX.perm p3 (EX.perm p3 (EX.meet () (fun h => absurd h (by omega)) (.refl _) (.eq m0 (congrArg (fun z : Nat => Value.int .i64 (z : Int)) (show (x : Nat) = (rnVal acc x) by omega)) (.eq m1 (congrArg (fun z : Nat => Value.int .i64 (z : Int)) (show (1 : Nat) = (rnMany x u) by omega)) (.sl 2 5 rfl))))))))))
    refine TL.sub (.eq m0 (congrArg Value.bool (decide_eq_false g34)) (.eq m1 (congrArg Value.bool (decide_eq_false g34)) (.cons m2 (.cons m3 (.cons m4 (.cons m5 (.cons m6 (.cons m7 (.cons m8 (.cons m9 .nil)))))))))) (TL.gn m0 (TL.gn m0 (TL.gn m0 (TL.val (r_pickf T0 .c) (TL.a m0 (TL.b (.hd .u4) (CT.iff_ m0 ?_)))))))
    refine CT.y (TL.m m2 (TL.val (n_eql x 16 T0 .c) (TL.a m0 (TL.b (.hd .u2) (CT.ifd m0 (fun c42 => ?_) (fun c42 => ?_))))))
    ·
     have hne0 : ¬ acc.length = 0 := by omega
     obtain ⟨hq1, hq2, hq3⟩ : rnMany x u = 3 + u ∧ rnBits x = 2 ∧ rnVal acc x = acc.getD (acc.length - 1) 0 := by rw [c42]; exact ⟨rfl, rfl, rfl⟩
     have hdrb : B.drop (kk + own.getD x 0) = nbits 2 u ++ rest := by rw [← hq2]; exact hdr
     have hvb : u < 2 ^ 2 := by have h := hv; rw [hq2] at h; exact h
     refine CT.sub .u1 (CT.peek m2 (by omega) ?_)
     intro e e_c e_v e_k e_l
     refine CT.held [(slc 1 v ((acc).length) ((acc).map i64))] fm ?_
     refine TH.t 0 rfl (fun w h => h.only m2) (r_move T5) (TH.t 3 rfl (fun w h => h.only m2) (r_move T4) (TH.t 4 rfl (fun w h => h.only m2) (r_move T5) (TH.t 5 rfl (fun w h => h.only m2) (r_lens Tryz.underlying42 T0 m0) (TH.t 6 rfl (fun w h => h.only m2) (n_sub ((acc).length) 1 9223372036854775808 T0 .c) (TH.t 7 rfl (fun w h => h.only m2) (r_ia (i := ((acc).length - 1)) (off' := ((acc).length - 1)) Tryz.underlying42 Tryz.sizeOf3 (.te m3 e_v) T0 rfl (by omega) (by omega)) (TH.t 8 rfl (fun w h => h.only m2) (r_lds (u := (i64 (acc.getD (((acc).length - 1)) 0))) Tryz.isAgg3 m0 e_v T0 (acc_at (by omega))) (TH.oneC 1 (by kernel_rfl) rfl (r_call ce_72 (.cons T6 (.cons .c .nil))) (fun w hS => t72 u 2 (rest := rest) (by omega) (by decide) hvb hdrb hS) ?_)))))))
     rintro _ w46 ⟨rfl, hS⟩
     refine ⟨hS.only m2, THB.at hS ?_⟩
     refine TH.t 2 rfl (fun w h => h.only m2) (n_add 3 (u) 9223372036854775808 .c T0) (TH.sub (.hd (.hd (.hd (.hd (.hd (.hd (.hd (.hd (.hd (.hd .u1)))))))))) ?_)
     refine TH.t 9 rfl (fun w h => h.only m2) (r_asg T0) (TH.sub (.hd (.hd (.hd (.hd (.hd (.hd (.hd (.hd (.hd (.hd .u1)))))))))) ?_)
     exact TH.t 10 rfl (fun w h => h.only m2) (r_asg T3) (TH.done (by kernel_rfl) (EX.sub (.hd (.hd .u9)) (EX.bnormal (EX.fold (A' := (Sp p sv (B) (kk + own.getD x 0 + rnBits x) dv out ((-1)))) a0 (Sp_eq (by omega) rfl) (EX.perm p1 (EX.perm p3 (EX.perm p3 (EX.perm p3 (EX.meet () (fun _ h => by rw [h] at hne0; exact hne0 rfl) (.refl _) (.eq m0 (congrArg (fun z : Nat => Value.int .i64 (z : Int)) (show ((acc.getD (((acc).length - 1)) 0) : Nat) = (rnVal acc x) by omega)) (.eq m1 (congrArg (fun z : Nat => Value.int .i64 (z : Int)) (show ((3 + u) : Nat) = (rnMany x u) by omega)) (.sl 2 5 rfl))))))))))))
    refine CT.y (TL.m m2 (TL.val (n_eql x 17 T0 .c) (TL.a m0 (TL.b (.hd .u2) (CT.ifd m0 (fun c54 => ?_) (fun c54 => ?_))))))
    ·
     obtain ⟨hq1, hq2, hq3⟩ : rnMany x u = 3 + u ∧ rnBits x = 3 ∧ rnVal acc x = 0 := by rw [c54]; exact ⟨rfl, rfl, rfl⟩
     have hdrb : B.drop (kk + own.getD x 0) = nbits 3 u ++ rest := by rw [← hq2]; exact hdr
     have hvb : u < 2 ^ 3 := by have h := hv; rw [hq2] at h; exact h
     refine CT.sub .u1 (CT.region (TL.m m5 (TL.call (r_call ce_72 (.cons T0 (.cons .c .nil))) (fun w hS => t72 u 3 (rest := rest) (by omega) (by decide) hvb hdrb hS) ?_)))
     rintro _ w58 ⟨rfl, hS⟩
     exact TW.at hS (TL.val (n_add 3 (u) 9223372036854775808 .c T0) (TL.rm .h4 (TL.a m0 (TL.rm .h4 (TL.val (r_asg .c) (TL.x (.hd (.hd .u3)) (EX.bnormal (EX.fold (A' := (Sp p sv (B) (kk + own.getD x 0 + rnBits x) dv out ((-1)))) a0 (Sp_eq (by omega) rfl) (EX.perm p1 (EX.perm p3 (EX.perm p3 (EX.perm p3 (EX.meet () (fun h => absurd h (by omega)) (.refl _) (.eq m0 (congrArg (fun z : Nat => Value.int .i64 (z : Int)) (show (0 : Nat) = (rnVal acc x) by omega)) (.eq m1 (congrArg (fun z : Nat => Value.int .i64 (z : Int)) (show ((3 + u) : Nat) = (rnMany x u) by omega)) (.sl 2 5 rfl))))))))))))))))
    refine CT.y (TL.m m2 (TL.val (n_eql x 18 T0 .c) (TL.a m0 (TL.b (.hd .u2) (CT.ifd m0 (fun c60 => ?_) (fun c60 => ?_))))))
    ·
     obtain ⟨hq1, hq2, hq3⟩ : rnMany x u = 11 + u ∧ rnBits x = 7 ∧ rnVal acc x = 0 := by rw [c60]; exact ⟨rfl, rfl, rfl⟩
     have hdrb : B.drop (kk + own.getD x 0) = nbits 7 u ++ rest := by rw [← hq2]; exact hdr
     have hvb : u < 2 ^ 7 := by have h := hv; rw [hq2] at h; exact h
     refine CT.sub .u1 (CT.region (TL.m m5 (TL.call (r_call ce_72 (.cons T0 (.cons .c .nil))) (fun w hS => t72 u 7 (rest := rest) (by omega) (by decide) hvb hdrb hS) ?_)))
     rintro _ w64 ⟨rfl, hS⟩
     exact TW.at hS (TL.val (n_add 11 (u) 9223372036854775808 .c T0) (TL.rm .h4 (TL.a m0 (TL.rm .h4 (TL.val (r_asg .c) (TL.x (.hd (.hd .u3)) (EX.bnormal (EX.fold (A' := (Sp p sv (B) (kk + own.getD x 0 + rnBits x) dv out ((-1)))) a0 (Sp_eq (by omega) rfl) (EX.perm p1 (EX.perm p3 (EX.perm p3 (EX.perm p3 (EX.meet () (fun h => absurd h (by omega)) (.refl _) (.eq m0 (congrArg (fun z : Nat => Value.int .i64 (z : Int)) (show (0 : Nat) = (rnVal acc x) by omega)) (.eq m1 (congrArg (fun z : Nat => Value.int .i64 (z : Int)) (show ((11 + u) : Nat) = (rnMany x u) by omega)) (.sl 2 5 rfl))))))))))))))))
    have h16 : x < 16 := by omega
    obtain ⟨hq2, hq1, hq4⟩ := rn16 h16 u
    have hq3 := hq4 acc
    exact CT.z (EX.bnormal (EX.fold (A' := (Sp p sv (B) (kk + own.getD x 0 + rnBits x) dv out ((-1)))) a0 (Sp_eq (by omega) rfl) (EX.perm p1 (EX.perm p3 (EX.perm p3 (EX.perm p3 (EX.meet () (fun h => absurd h (by omega)) (.refl _) (.eq m0 (congrArg (fun z : Nat => Value.int .i64 (z : Int)) (show (x : Nat) = (rnVal acc x) by omega)) (.eq m1 (congrArg (fun z : Nat => Value.int .i64 (z : Int)) (show (1 : Nat) = (rnMany x u) by omega)) (.sl 2 5 rfl))))))))))
   rintro ⟨⟩ hne
   show CT _ _ _ [(11, (i64 (rnVal acc x))), (10, (i64 (rnMany x u))), (9, (i64 x)), (8, v), (7, (.map (some mb))), (0, (pt p 0)), (1, (i64 (nl + nd)))] _ _ ((Sp p sv (B) (kk + own.getD x 0 + rnBits x) dv out ((-1))) :: slc 1 v ((acc).length) ((acc).map i64) :: A :: (Bk mb own) :: R)
   replace hne : x = 16 → acc ≠ [] := hne
   have hrl := rnExp_length acc x u
   have hrm : rnMany x u ≤ 139 := rnMany_le hx18 hv
   have hmp := rnMany_pos x u
   have hcs2 : (o = none ∧ nl + nd < (rnExp acc x u).length) ∨ ((rnExp acc x u).length ≤ nl + nd ∧ RunR own nl nd (rnExp acc x u) rest o) := by rcases hcs with ⟨_, h1, h2⟩ | ⟨_, h⟩ <;> first | exact absurd h2 (hne h1) | exact h
   have hdr2 := drop_app hdr
   rw [nbits_length] at hdr2
   refine CT.cut (X := Bool) (fun gx => [(11, (i64 (rnVal acc x))), (10, (i64 (rnMany x u))), (9, (i64 x)), (8, v), (7, (.map (some mb))), (0, (pt p 0)), (1, (i64 (nl + nd)))]) (fun gx => (Sp p sv (B) (kk + own.getD x 0 + rnBits x) dv out (cond gx 2 (-1))) :: slc 1 v ((acc).length) ((acc).map i64) :: A :: (Bk mb own) :: R) (fun gx => (gx = false → RunR own nl nd (rnExp acc x u) rest o ∧ (rnExp acc x u).length ≤ nl + nd) ∧ (gx = true → o = none)) ?_ ?_
   ·
    refine CT.q (TL.m m5 (TL.call (r_call ce_47 (.cons T0 .nil)) (fun w hS => t47 (r := true) (by decide) hS) ?_))
    rintro _ w67 ⟨rfl, hS⟩
    refine TW.at hS (TL.m m0 (TL.gv m0 (r_move T6) (TL.gv m1 (r_lens Tryz.underlying42 T0 m1) (TL.gv m2 (r_move T6) (TL.gv m3 (n_add ((acc).length) ((rnMany x u)) 9223372036854775808 T1 T0) (TL.gv m4 (r_move T13) (TL.gv m5 (n_gtr (((acc).length + (rnMany x u))) ((nl + nd)) T1 T0) (TL.val (r_pickt T6 T0) (TL.b (.hd .u9) (CT.ifd m0 (fun c75 => ?_) (fun c75 => ?_)))))))))))
    ·
     have ho : o = none := by rcases hcs2 with ⟨h, _⟩ | ⟨h, _⟩ <;> first | exact h | omega
     refine CT.sub .u1 (CT.region (TL.m m5 (TL.call (r_call ce_49 (.cons T0 (.cons .c .nil))) (fun w hS => t49_1 hS) ?_)))
     rintro _ w77 ⟨rfl, hS⟩
     exact TW.at hS (TL.x .u2 (EX.fold (A' := (Sp p sv (B) (kk + own.getD x 0 + rnBits x) dv out (cond true 2 (-1)))) a0 (Sp_eq (by omega) rfl) (EX.meet true (⟨(fun h => by cases h), fun _ => ho⟩) (.refl _) (.sl 0 7 rfl))))
    have hcs3 : RunR own nl nd (rnExp acc x u) rest o ∧ (rnExp acc x u).length ≤ nl + nd := by rcases hcs2 with ⟨_, h⟩ | ⟨h1, h⟩ <;> first | exact ⟨h, h1⟩ | omega
    exact CT.z (EX.fold (A' := (Sp p sv (B) (kk + own.getD x 0 + rnBits x) dv out (cond false 2 (-1)))) a0 (Sp_eq (by omega) rfl) (EX.meet false (⟨fun _ => hcs3, (fun h => by cases h)⟩) (.refl _) (.sl 0 7 rfl)))
   rintro b2 ⟨hb1, hb2⟩
   show CT _ _ _ [(11, (i64 (rnVal acc x))), (10, (i64 (rnMany x u))), (9, (i64 x)), (8, v), (7, (.map (some mb))), (0, (pt p 0)), (1, (i64 (nl + nd)))] _ _ ((Sp p sv (B) (kk + own.getD x 0 + rnBits x) dv out (cond b2 2 (-1))) :: slc 1 v ((acc).length) ((acc).map i64) :: A :: (Bk mb own) :: R)
   refine CT.q (TL.m m1 (TL.val (r_move .c) (TL.e (CT.block (CT.fold (A' := (slc 1 v ((acc ++ List.replicate 0 (rnVal acc x)).length) ((acc ++ List.replicate 0 (rnVal acc x)).map i64))) a1 (slc_eq (by rw [List.replicate_zero, List.append_nil]) (by rw [List.replicate_zero, List.append_nil])) (CT.loop (X := Nat × Value) (fun gx => [(79, (i64 gx.1)), (8, gx.2), (78, (i64 (rnMany x u))), (11, (i64 (rnVal acc x))), (7, (.map (some mb))), (0, (pt p 0)), (1, (i64 (nl + nd)))]) (fun gx => (Sp p sv (B) (kk + own.getD x 0 + rnBits x) dv out (cond b2 2 (-1))) :: slc 1 gx.2 ((acc ++ List.replicate gx.1 (rnVal acc x)).length) ((acc ++ List.replicate gx.1 (rnVal acc x)).map i64) :: A :: (Bk mb own) :: R) (fun gx => gx.1 ≤ rnMany x u) (fun gx => rnMany x u - gx.1) ((0, v)) (Nat.zero_le _) (.refl _) (.cons m0 (.cons m5 (.cons m1 (.cons m2 (.sl 6 3 rfl))))) ?_))))))
   rintro ⟨c, v2⟩ hL
   show CT _ _ _ [(79, (i64 c)), (8, v2), (78, (i64 (rnMany x u))), (11, (i64 (rnVal acc x))), (7, (.map (some mb))), (0, (pt p 0)), (1, (i64 (nl + nd)))] _ _ ((Sp p sv (B) (kk + own.getD x 0 + rnBits x) dv out (cond b2 2 (-1))) :: slc 1 v2 ((acc ++ List.replicate c (rnVal acc x)).length) ((acc ++ List.replicate c (rnVal acc x)).map i64) :: A :: (Bk mb own) :: R)
   replace hL : c ≤ rnMany x u := hL
   have hrc : (acc ++ List.replicate c (rnVal acc x)).length = acc.length + c := by rw [List.length_append, List.length_replicate]
   refine CT.q (TL.val (n_lss c ((rnMany x u)) T0 T2) (TL.e (CT.seq (CT.ifd m0 (fun c80 => ?_) (fun c80 => ?_)))))
   ·
    refine CT.z (EX.seq (CT.seq (CT.block (CT.region (TL.m m1 (TL.m m4 (TL.w (r_buildSlice (k := 1) (e := 3) (cs := #[(i64 (rnVal acc x))]) (F := lst [(i64 (rnVal acc x))]) (.cons T0 .nil) (fun _ => by kernel_rfl) rfl lst_ok) ?_)))))))
    rintro _ w83 ⟨b83, rfl, hS⟩
    refine TW.at hS (TL.perm p2 (TL.w (r_append (j := 1) (k := (acc ++ List.replicate c (rnVal acc x)).length) (ds := [(i64 (rnVal acc x))]) el_42 Tryz.underlying42 T2 T0 ⟨_, _, rfl⟩ (rdsl m1 rfl rfl) ones1 (by omega) (by omega)) ?_))
    rintro v84 w84 hS
    have ho84 := hS.slc_one
    refine TW.at hS (TL.fold (A' := (slc 1 v84 ((acc ++ List.replicate (c + 1) (rnVal acc x)).length) ((acc ++ List.replicate (c + 1) (rnVal acc x)).map i64))) a0 (slc_eq (by simp only [List.length_append, List.length_replicate]; omega) (by rw [show acc ++ List.replicate (c + 1) (rnVal acc x) = (acc ++ List.replicate c (rnVal acc x)) ++ [rnVal acc x] by rw [List.replicate_succ', List.append_assoc]]; exact (List.map_append (f := i64) (l₂ := [rnVal acc x])).symm)) ?_)
    refine TL.rm .h5 (TL.a m0 (TL.x (.hd .u4) (EX.bnormal (EX.seq (CT.region (TL.val (n_add c 1 9223372036854775808 T1 .c) (TL.rm .h2 (TL.m m0 (TL.x (.hd .u1) (EX.perm p1 (EX.conv (fun _ h => h.tail) ?_)))))))))))
    exact EX.perm p3 (EX.perm p3 (EX.perm p2 (EX.perm p3 (EX.again ((c + 1, v84)) (by show c + 1 ≤ rnMany x u; omega) (by show rnMany x u - (c + 1) < rnMany x u - c; omega) (.refl _) (.eq m0 (congrArg (fun z : Nat => Value.int .i64 (z : Int)) (show ((c + 1) : Nat) = c + 1 by omega)) (.sl 1 6 rfl))))))
   have hce : c = rnMany x u := by omega
   exact CT.sub .u1 (CT.exit (EX.then_exit (EX.then_exit (EX.out (EX.bnormal (EX.fold (A' := (slc 1 v2 ((rnExp acc x u).length) ((rnExp acc x u).map i64))) a1 (slc_eq (by rw [hce]; rfl) (by rw [hce]; rfl)) (EX.again ((b2, kk + own.getD x 0 + rnBits x, rnExp acc x u, v2)) (⟨(fun h => by show RunR own nl nd (rnExp acc x u) (B.drop (kk + own.getD x 0 + rnBits x)) o ∧ (rnExp acc x u).length ≤ nl + nd; rw [hdr2]; exact hb1 h), hb2, (by show kk + own.getD x 0 + rnBits x ≤ B.length; omega), (by show at_ ≤ kk + own.getD x 0 + rnBits x; omega), by show (rnExp acc x u).length ≤ 1000; omega⟩) (by show cond b2 0 (1 + (nl + nd - (rnExp acc x u).length)) < 1 + (nl + nd - acc.length); cases b2 <;> simp <;> omega) (.refl _) (.cons m1 (.sl 4 3 rfl)))))))))
  obtain rfl : bad = true := by simpa using c21
  refine CT.sub .u1 (CT.exit (EX.then_exit (EX.then_exit (EX.out (EX.q (TL.m m0 (TL.a m0 (TL.b (.hd .u1) (CT.ret (EX.perm p2 (EX.perm p2 (EX.perm p2 (EX.perm p3 (EX.conv (fun _ h => h.tail) ?_))))))))))))))
  exact EX.perm p2 (EX.perm p2 (EX.perm p2 (EX.end_ (.inl rfl) (res1 Tryz.results99 m0) (fun _ hS => ⟨kk, acc, hJ3, hJ4, .inl ⟨hJ2 rfl, Sat.keep1 hS⟩⟩))))
 refine TL.sub (.eq m0 (congrArg Value.bool (decide_eq_false g18)) (.eq m1 (congrArg Value.bool (decide_eq_false g18)) (.cons m2 (.cons m3 (.cons m4 (.cons m5 (.cons m6 (.cons m7 (.cons m8 .nil))))))))) (TL.gn m0 (TL.gn m0 (TL.val (r_pickf T0 .c) (TL.b (.hd .u5) (CT.iff_ m0 ?_)))))
 refine CT.sub .u1 (CT.exit (EX.then_exit (EX.then_exit (EX.out (EX.q (TL.m m0 (TL.a m0 (TL.b (.hd .u1) (CT.ret (EX.perm p2 (EX.perm p2 (EX.perm p2 (EX.perm p3 (EX.conv (fun _ h => h.tail) ?_))))))))))))))
 exact EX.perm p2 (EX.perm p2 (EX.perm p2 (EX.end_ (.inl rfl) (res1 Tryz.results99 m0) (fun _ hS => ⟨kk, acc, hJ3, hJ4, by cases bad with | true => exact .inl ⟨hJ2 rfl, Sat.keep1 hS⟩ | false => exact .inr ⟨by have := (hJ1 rfl).2; omega, (hJ1 rfl).1, hS⟩⟩))))
end Go.Eng
namespace Go.Eng
open Go Go.Proofs Go.Infl
def cbg (own : List Nat) (i : Nat) (F : Nat → Value) (x : Nat) : Value := if x ∈ ordr.take i then i64 (own.getD x 0) else F x
theorem cbg_put {own : List Nat} {i : Nat} {F : Nat → Value} (h : i < 19) {v : Nat} (hv : v = own.getD (ordr.getD i 0) 0) : upd (cbg own i F) (ordr.getD i 0) (i64 v) = cbg own (i + 1) F := by
 subst hv
 funext x
 unfold upd cbg
 rw [ordr_take h]
 by_cases e : x = ordr.getD i 0
 ·
  subst e; rw [if_pos rfl, if_pos (List.mem_append_right _ (List.mem_singleton.2 rfl))]
 rw [if_neg e]
 have : x ∈ ordr.take i ++ [ordr.getD i 0] ↔ x ∈ ordr.take i := by rw [List.mem_append, List.mem_singleton]; exact ⟨fun h => h.resolve_right e, .inl⟩
 simp only [this]
theorem cbg_nil {own : List Nat} {F : Nat → Value} : F = cbg own 0 F := by funext x; exact (if_neg (by simp)).symm
theorem flat3_lengthb {g : Nat → Nat} : ∀ {l : List Nat}, (l.flatMap (fun o => nbits 3 (g o))).length = 3 * l.length
 | [] => rfl
 | x :: l => by rw [List.flatMap_cons, List.length_append, nbits_length, flat3_lengthb (l := l), List.length_cons]; omega
theorem ord_blk {b : Nat} : ∀ m, blk b 19 (lst [.int .i64 16, .int .i64 17, .int .i64 18, .int .i64 0, .int .i64 8, .int .i64 7, .int .i64 9, .int .i64 6, .int .i64 10, .int .i64 5, .int .i64 11, .int .i64 4, .int .i64 12, .int .i64 3, .int .i64 13, .int .i64 2, .int .i64 14, .int .i64 1, .int .i64 15]) m → blk b 19 (fun j => i64 (ordr.getD j 0)) m := fun m ⟨cs, T, h1, h2, h3⟩ =>
 ⟨cs, T, h1, h2, fun i hi => by
  rw [h3 i hi]
  have e : lst [.int .i64 16, .int .i64 17, .int .i64 18, .int .i64 0, .int .i64 8, .int .i64 7, .int .i64 9, .int .i64 6, .int .i64 10, .int .i64 5, .int .i64 11, .int .i64 4, .int .i64 12, .int .i64 3, .int .i64 13, .int .i64 2, .int .i64 14, .int .i64 1, .int .i64 15] i = (ordr.map i64).getD i undef := rfl
  have hi' : i < ordr.length := hi
  show some (lst _ i) = some (i64 (ordr.getD i 0))
  rw [e, List.getD_eq_getElem?_getD, List.getD_eq_getElem?_getD, List.getElem?_map, List.getElem?_eq_getElem hi']
  rfl⟩
theorem ordr_sur : ∀ x, x < 19 → ∃ i, i < 19 ∧ ordr.getD i 0 = x := by decide
theorem cbg_rd2 {own : List Nat} {b many j : Nat} (h19 : own.length = 19) (hz : ∀ i, many ≤ i → i < 19 → own.getD (ordr.getD i 0) 0 = 0) (hj : j = many) {G w : World} {L : List HProp} (hm : blk b 19 (cbg own j (fun _ => .int .i64 0)) ∈ L) (hS : Sat G w L) : ∀ q x, own[q]? = some x → w.cell? ⟨b, 0 + q, none⟩ = some (i64 x) := fun q x hq => by
 subst hj
 have hl := (List.getElem?_eq_some_iff.1 hq).1
 have h := hS.cell hm (i := q) (by omega)
 have hg : own.getD q 0 = x := by rw [List.getD_eq_getElem?_getD, hq]; rfl
 rw [Nat.zero_add, h]
 unfold cbg
 split
 ·
  rw [hg]
 rename_i hn
 obtain ⟨i, hi, e⟩ := ordr_sur q (by omega)
 rcases Nat.lt_or_ge i j with h1 | h1
 ·
  refine absurd ?_ hn
  rw [← e, List.getD_eq_getElem?_getD, List.getElem?_eq_getElem (show i < ordr.length from hi)]
  refine List.mem_of_getElem? (i := i) ?_
  rw [List.getElem?_take, if_pos h1, List.getElem?_eq_getElem (show i < ordr.length from hi)]; rfl
 have := hz i h1 hi
 rw [e, hg] at this
 subst this; rfl
theorem all_lit {G w : World} {L : List HProp} {v : Value} {lit dist : List Nat} {e c j x : Nat} (hm : slc 1 v (lit ++ dist).length ((lit ++ dist).map i64) ∈ L) (hS : Sat G w L) (hv : v = .slice (some ⟨e, 0, none⟩) (lit ++ dist).length c) (hj : lit[j]? = some x) : w.cell? ⟨e, 0 + j, none⟩ = some (i64 x) := by
 rw [Nat.zero_add]
 refine hS.slc_cell hm hv ?_
 rw [List.getElem?_map, List.getElem?_append_left (List.getElem?_eq_some_iff.1 hj).1, hj]; rfl
theorem all_dist {G w : World} {L : List HProp} {v : Value} {lit dist : List Nat} {e c j x lo : Nat} (hl : lit.length = lo) (hm : slc 1 v (lit ++ dist).length ((lit ++ dist).map i64) ∈ L) (hS : Sat G w L) (hv : v = .slice (some ⟨e, 0, none⟩) (lit ++ dist).length c) (hj : dist[j]? = some x) : w.cell? ⟨e, lo + j, none⟩ = some (i64 x) := by
 refine hS.slc_cell hm hv ?_
 rw [List.getElem?_map, List.getElem?_append_right (by omega), hl, Nat.add_sub_cancel_left, hj]; rfl
theorem kraft_used : ∀ {ls : List Nat}, (∀ x ∈ ls, x ≤ 15) → kraft ls ≤ 16384 * usedN ls ls.length
 | [], _ => by simp [kraft]
 | l :: ls, h => by
  have ih := kraft_used (ls := ls) (fun x hx => h x (List.mem_cons_of_mem _ hx))
  have h1 := h l (List.mem_cons_self ..)
  unfold usedN at ih ⊢
  rw [List.take_length] at ih ⊢
  rw [kraft, List.countP_cons]
  by_cases h0 : l = 0
  ·
   subst h0; rw [if_pos rfl, if_neg (by decide)]; omega
  rw [if_neg h0, if_pos (by simp; omega)]
  have : 2 ^ (15 - l) ≤ 2 ^ 14 := Nat.pow_le_pow_right (by decide) (by omega)
  omega
theorem usedN_over {ls : List Nat} (h : Over ls) (h15 : ∀ x ∈ ls, x ≤ 15) : 2 ≤ usedN ls ls.length := by
 have := kraft_used h15
 have := h.kraft h15
 omega
theorem t38  {G : World} {R : List HProp} {w : World} (hS : Sat G w (R)) :
 CallsR Tryz.prog 38 #[] w (fun v w' => ∃ b : Nat, v = .slice (some ⟨b, 0, none⟩) 19 19 ∧ Sat G w' (blk b 19 (fun j => i64 (ordr.getD j 0)) :: R)) := by
 refine calls_in (n := 2) [] Tryz.func38 rfl rfl hS args0 ?_
 refine CT.q (TL.val (r_asg .c) (TL.q (TL.w (r_buildSlice (k := 19) (e := 3) (cs := #[(.int .i64 16), (.int .i64 17), (.int .i64 18), (.int .i64 0), (.int .i64 8), (.int .i64 7), (.int .i64 9), (.int .i64 6), (.int .i64 10), (.int .i64 5), (.int .i64 11), (.int .i64 4), (.int .i64 12), (.int .i64 3), (.int .i64 13), (.int .i64 2), (.int .i64 14), (.int .i64 1), (.int .i64 15)]) (F := lst [(.int .i64 16), (.int .i64 17), (.int .i64 18), (.int .i64 0), (.int .i64 8), (.int .i64 7), (.int .i64 9), (.int .i64 6), (.int .i64 10), (.int .i64 5), (.int .i64 11), (.int .i64 4), (.int .i64 12), (.int .i64 3), (.int .i64 13), (.int .i64 2), (.int .i64 14), (.int .i64 1), (.int .i64 15)]) (.cons .c (.cons .c (.cons .c (.cons .c (.cons .c (.cons .c (.cons .c (.cons .c (.cons .c (.cons .c (.cons .c (.cons .c (.cons .c (.cons .c (.cons .c (.cons .c (.cons .c (.cons .c (.cons .c .nil))))))))))))))))))) (fun _ => by kernel_rfl) rfl lst_ok) ?_)))
 rintro _ w1 ⟨b1, rfl, hS⟩
 exact TW.at hS (TL.rm .h1 (TL.a m0 (TL.b (.hd .u1) (CT.ret (EX.end_ (.inl rfl) (res1 Tryz.results38 m0) (fun _ hS => ⟨b1, rfl, hS.imp ord_blk⟩))))))
theorem t76 {p at_ dc nl nd : Nat} {sv : Value} {dp : Option Addr} {B hb bits : List Bool} {out dd own : List Nat} {DA : HProp} {fin : Bool} {hF : List Nat × Bool} {o : Option (List Nat × List Nat × List Bool)} (hDR : DRd DA (.slice dp dd.length dc) dd) (hdd : dd.length ≤ 32768) (hh : OwnHd hb own nl nd) (hH : HdrR own nl nd bits o) (he : o = none → hF = (dd ++ out, false)) (hgo : ∀ lit dist r kk, o = some (lit, dist, r) → kk + r.length = at_ + hb.length + bits.length → HTail lit dist fin kk r (dd ++ out) hF) (hd : B.drop at_ = hb ++ bits) (hBl : B.length < 1099511627776) (hol : hF.1.length ≤ dd.length + 131072) {G : World} {R : List HProp} {w : World} (hS : Sat G w ((Sp p sv (B) at_ (.slice dp dd.length dc) out ((-1))) :: DA :: R)) :
 CallsR Tryz.prog 76 #[(pt p 0)] w (fun v w' => v = .tuple #[] ∧ ∃ (at' : Nat) (out' : List Nat), at_ < at' ∧ at' ≤ B.length ∧ ((After fin at' (B.drop at') (dd ++ out') hF ∧ Sat G w' (Sp p sv B at' (.slice dp dd.length dc) out' (-1) :: DA :: R)) ∨ (hF = (dd ++ out', false) ∧ Sat G w' (Sp p sv B at' (.slice dp dd.length dc) out' 2 :: DA :: R)))) := by
 obtain ⟨many, h19, h7, hm4, hm19, hz, hnl1, hnl2, hnd1, hnd2, rfl⟩ := hh.bits3
 simp only [List.append_assoc] at hd
 have hd1 := drop_app hd
 rw [nbits_length] at hd1
 have hd2 := drop_app hd1
 rw [nbits_length] at hd2
 have hd3 := drop_app hd2
 rw [nbits_length] at hd3
 have hlen := congrArg List.length hd
 simp only [List.length_drop, List.length_append, nbits_length] at hlen hgo
 have hlo : ordr.length = 19 := rfl
 have hfl3 : (((ordr.take many).drop 0).flatMap (fun o => nbits 3 (own.getD o 0))).length = 3 * many := by
  rw [List.drop_zero, flat3_lengthb, List.length_take, hlo, Nat.min_eq_left hm19]
 refine calls_in (n := 95) [(0, (pt p 0))] Tryz.func76 rfl rfl hS args1 ?_
 refine CT.q (TL.m m0 (TL.call (r_call ce_72 (.cons T0 (.cons .c .nil))) (fun w hS => t72 (nl - 257) 5 (rest := (nbits 5 (nd - 1) ++ (nbits 4 (many - 4) ++ (((ordr.take many).drop 0).flatMap (fun o => nbits 3 (own.getD o 0)) ++ bits)))) (by omega) (by decide) (by omega) hd hS) ?_))
 rintro _ w12 ⟨rfl, hS⟩
 refine TW.at hS (TL.val (n_add 257 ((nl - 257)) 9223372036854775808 .c T0) (TL.a m0 (TL.sub (.hd .u3) (TL.r (.eq m0 (congrArg (fun z : Nat => Value.int .i64 (z : Int)) (show 257 + (nl - 257) = nl by omega)) (.cons m1 .nil)) (TL.m m1 (TL.call (r_call ce_72 (.cons T0 (.cons .c .nil))) (fun w hS => t72 (nd - 1) 5 (rest := (nbits 4 (many - 4) ++ (((ordr.take many).drop 0).flatMap (fun o => nbits 3 (own.getD o 0)) ++ bits))) (by omega) (by decide) (by omega) hd1 hS) ?_))))))
 rintro _ w15 ⟨rfl, hS⟩
 refine TW.at hS (TL.val (n_add 1 ((nd - 1)) 9223372036854775808 .c T0) (TL.a m0 (TL.sub (.hd .u3) (TL.r (.eq m0 (congrArg (fun z : Nat => Value.int .i64 (z : Int)) (show 1 + (nd - 1) = nd by omega)) (.cons m1 (.cons m2 .nil))) (TL.m m2 (TL.call (r_call ce_72 (.cons T0 (.cons .c .nil))) (fun w hS => t72 (many - 4) 4 (rest := (((ordr.take many).drop 0).flatMap (fun o => nbits 3 (own.getD o 0)) ++ bits)) (by omega) (by decide) (by omega) hd2 hS) ?_))))))
 rintro _ w18 ⟨rfl, hS⟩
 refine TW.at hS (TL.val (n_add 4 ((many - 4)) 9223372036854775808 .c T0) (TL.a m0 (TL.sub (.hd .u3) (TL.b (.eq m0 (congrArg (fun z : Nat => Value.int .i64 (z : Int)) (show 4 + (many - 4) = many by omega)) (.cons m1 (.cons m2 (.cons m3 .nil)))) (CT.seq (CT.q (TL.m m3 (TL.call (r_call ce_47 (.cons T0 .nil)) (fun w hS => t47 (r := true) (by decide) hS) ?_))))))))
 rintro _ w21 ⟨rfl, hS⟩
 refine TW.at hS (TL.m m0 (TL.gv m0 (r_move T5) (TL.gv m1 (n_gtr nl 286 T0 .c) (TL.gv m2 (r_move T0) ?_))))
 by_cases g25 : 286 < nl
 ·
  exfalso; omega
 refine TL.sub (.eq m0 (congrArg Value.bool (decide_eq_false g25)) (.eq m1 (congrArg Value.bool (decide_eq_false g25)) (.cons m2 (.cons m3 (.cons m4 (.cons m5 (.cons m6 (.cons m7 (.cons m8 (.cons m9 .nil)))))))))) (TL.gv m0 (r_move T7) (TL.gv m1 (n_gtr nd 30 T0 .c) (TL.gv m5 (r_pickf T2 T0) (TL.val (r_pickt T6 T0) (TL.b (.hd .u9) (CT.ifd m0 (fun c29 => ?_) (fun c29 => ?_)))))))
 ·
  exfalso; omega
 refine CT.z (EX.q (TL.w (r_make (l := 19) (c := 19) Tryz.underlying42 Tryz.sizeOf3 ⟨_, Tryz.typeInfo3, rfl⟩ Tryz.zeroValue3 rfl .c .c rfl rfl (by omega) (by decide) (by omega)) ?_))
 rintro _ w32 ⟨b32, rfl, hS⟩
 refine TW.at hS (TL.a m0 (TL.b (.hd .u1) (CT.seq (CT.q (TL.m m1 (TL.val (r_move .c) (TL.b (.hd (.hd (.hd .u1))) (CT.block (CT.fold (A' := (blk b32 19 (cbg own 0 (fun _ => (.int .i64 0))))) a0 (blk_eq rfl cbg_nil) (CT.fold (A' := (Sp p sv (B) (at_ + 5 + 5 + 4 + 3 * 0) (.slice dp dd.length dc) out ((-1)))) a1 (Sp_eq (by omega) rfl) (CT.perm p2 (CT.perm p2 (CT.loop (X := Nat) (fun gx => [(34, (i64 gx)), (33, (i64 many)), (5, (.slice (some ⟨b32, 0, none⟩) 19 19)), (3, (i64 nd)), (2, (i64 nl)), (0, (pt p 0))]) (fun gx => (Sp p sv (B) (at_ + 5 + 5 + 4 + 3 * gx) (.slice dp dd.length dc) out ((-1))) :: DA :: blk b32 19 (cbg own gx (fun _ => (.int .i64 0))) :: R) (fun gx => gx ≤ many ∧ B.drop (at_ + 5 + 5 + 4 + 3 * gx) = ((ordr.take many).drop gx).flatMap (fun o => nbits 3 (own.getD o 0)) ++ bits) (fun gx => many - gx) 0 (⟨Nat.zero_le _, hd3⟩) (.refl _) (.sl 0 6 rfl) ?_)))))))))))))
 rintro j ⟨hJ1, hJ2⟩
 refine CT.q (TL.val (n_lss j many T0 T1) (TL.e (CT.seq (CT.ifd m0 (fun c35 => ?_) (fun c35 => ?_)))))
 ·
  have hol := own7 h7 (ordr.getD j 0)
  have hd4 : B.drop (at_ + 5 + 5 + 4 + 3 * j) = nbits 3 (own.getD (ordr.getD j 0) 0) ++ (((ordr.take many).drop (j + 1)).flatMap (fun o => nbits 3 (own.getD o 0)) ++ bits) := by rw [hJ2, ordr_drop (g := (fun o => nbits 3 (own.getD o 0))) c35 hm19, List.append_assoc]
  have hd5 := drop_app hd4
  rw [nbits_length] at hd5
  have hl4 := congrArg List.length hd4
  rw [List.length_drop, List.length_append, nbits_length] at hl4
  refine CT.z (EX.seq (CT.seq (CT.block (CT.q (TL.m m0 (TL.a m0 (TL.b (.hd .u1) (CT.any fm ?_))))))))
  refine TA.t 0 rfl (fun G L => r_move T3) (TA.t 2 rfl (fun G L => r_move T1) (TA.t 5 rfl (fun G L => r_move T8) (TA.one 1 (by kernel_rfl) (TO.call rfl (r_call ce_38 .nil) (fun w hS => t38 hS) ?_))))
  rintro _ w38 ⟨ob, rfl, hS⟩
  refine TB.at hS (TA.t 3 rfl (fun G L => r_ia (i := j) (off' := j) Tryz.underlying42 Tryz.sizeOf3 T0 T2 rfl (by omega) (by omega)) (TA.two 4 6 (by kernel_rfl) ?_ ?_))
  ·
   refine TO.val rfl (r_ld (v := (i64 (ordr.getD j 0))) Tryz.isAgg3 m0 T0 (by omega) rfl) (TA.one 6 (by kernel_rfl) (TO.perm p1 ?_))
   refine TO.call rfl (r_call ce_72 (.cons T3 (.cons .c .nil))) (fun w hS => t72 (own.getD (ordr.getD j 0) 0) 3 (rest := (((ordr.take many).drop (j + 1)).flatMap (fun o => nbits 3 (own.getD o 0)) ++ bits)) (by omega) (by decide) (by omega) hd4 hS) ?_
   rintro _ w43 ⟨rfl, hS⟩
   refine TB.at hS (TA.t 7 rfl (fun G L => r_ia (i := (ordr.getD j 0)) (off' := (ordr.getD j 0)) Tryz.underlying42 Tryz.sizeOf3 T6 T1 rfl (ordr_lt j (by omega)) (by omega)) (TA.one 8 (by kernel_rfl) (TO.s rfl (r_st (F' := cbg own (j + 1) (fun _ => (.int .i64 0))) Tryz.sizeOf3 (cbg_put (by omega) rfl) a3 T0 T1 (ordr_lt j (by omega))) (TA.done (by kernel_rfl) (EX.sub .u8 (EX.bnormal (EX.seq (CT.region (TL.val (n_add j 1 9223372036854775808 T1 .c) (TL.rm .h2 (TL.m m0 (TL.x (.hd .u1) (EX.fold (A' := (Sp p sv (B) (at_ + 5 + 5 + 4 + 3 * (j + 1)) (.slice dp dd.length dc) out ((-1)))) a0 (Sp_eq (by omega) rfl) (EX.perm p1 (EX.conv (fun _ h => h.tail) ?_)))))))))))))))
   exact EX.again (j + 1) (⟨by omega, by rw [show at_ + 5 + 5 + 4 + 3 * (j + 1) = at_ + 5 + 5 + 4 + 3 * j + 3 by omega]; exact hd5⟩) (by omega) (.refl _) (.eq m0 (by first | rfl | (congr 1 <;> omega)) (.sl 2 5 rfl))
  refine TO.perm p1 ?_
  refine TO.call rfl (r_call ce_72 (.cons T2 (.cons .c .nil))) (fun w hS => t72 (own.getD (ordr.getD j 0) 0) 3 (rest := (((ordr.take many).drop (j + 1)).flatMap (fun o => nbits 3 (own.getD o 0)) ++ bits)) (by omega) (by decide) (by omega) hd4 hS) ?_
  rintro _ w43 ⟨rfl, hS⟩
  refine TB.at hS (TA.one 4 (by kernel_rfl) (TO.val rfl (r_ld (v := (i64 (ordr.getD j 0))) Tryz.isAgg3 m1 T1 (by omega) rfl) (TA.t 7 rfl (fun G L => r_ia (i := (ordr.getD j 0)) (off' := (ordr.getD j 0)) Tryz.underlying42 Tryz.sizeOf3 T6 T0 rfl (ordr_lt j (by omega)) (by omega)) (TA.one 8 (by kernel_rfl) (TO.s rfl (r_st (F' := cbg own (j + 1) (fun _ => (.int .i64 0))) Tryz.sizeOf3 (cbg_put (by omega) rfl) a3 T0 T2 (ordr_lt j (by omega))) (TA.done (by kernel_rfl) (EX.sub .u8 (EX.bnormal (EX.seq (CT.region (TL.val (n_add j 1 9223372036854775808 T1 .c) (TL.rm .h2 (TL.m m0 (TL.x (.hd .u1) (EX.fold (A' := (Sp p sv (B) (at_ + 5 + 5 + 4 + 3 * (j + 1)) (.slice dp dd.length dc) out ((-1)))) a0 (Sp_eq (by omega) rfl) (EX.perm p1 (EX.conv (fun _ h => h.tail) ?_)))))))))))))))))
  exact EX.again (j + 1) (⟨by omega, by rw [show at_ + 5 + 5 + 4 + 3 * (j + 1) = at_ + 5 + 5 + 4 + 3 * j + 3 by omega]; exact hd5⟩) (by omega) (.refl _) (.eq m0 (by first | rfl | (congr 1 <;> omega)) (.sl 2 5 rfl))
 have hjm : j = many := by omega
 have hkB : at_ + 5 + 5 + 4 + 3 * j ≤ B.length := by omega
 have hdb : B.drop (at_ + 5 + 5 + 4 + 3 * j) = bits := by rw [hJ2, List.drop_of_length_le (by rw [List.length_take]; omega)]; rfl
 refine CT.sub .u1 (CT.exit (EX.then_exit (EX.then_exit (EX.out (EX.seq (CT.seq (CT.seq ?_)))))))
 rcases hH with ⟨hov, ho⟩ | ⟨hfu, hrr⟩
 ·
  replace he := he ho
  refine CT.sub (ρ' := [(34, (i64 j)), (33, (i64 many)), (5, (.slice (some ⟨b32, 0, none⟩) own.length 19)), (3, (i64 nd)), (2, (i64 nl)), (0, (pt p 0))]) (.cons m0 (.cons m1 (.eq m2 (by rw [h19]) (.sl 3 3 rfl)))) (CT.region (TL.m m5 (TL.call (r_call ce_47 (.cons T0 .nil)) (fun w hS => t47 (r := true) (by decide) hS) ?_)))
  rintro _ w47 ⟨rfl, hS⟩
  refine TW.at hS (TL.b (.hd .u1) (CT.ift m0 ?_))
  refine CT.sub .u1 (CT.region (TL.m m5 (TL.m m3 (TL.perm p2 (TL.perm p1 (TL.call (r_call ce_98 (.cons T1 (.cons T0 .nil))) (fun w hS => t98_over (blk b32 19 (cbg own j (fun _ => (.int .i64 0)))) own b32 0 19 (cbg_rd2 h19 hz hjm) (by omega) (fun x hx => Nat.le_trans (h7 x hx) (by decide)) hov hS) ?_))))))
  rintro _ w50 ⟨rfl, hS⟩
  refine TW.at hS (TL.r .u3 (TL.m m5 (TL.m m5 (TL.m m5 (TL.val (n_add nl nd 9223372036854775808 T1 T0) (TL.m m6 (TL.perm p1 (TL.perm p1 (TL.call (r_call ce_99 (.cons T4 (.cons T1 (.cons T0 .nil)))) (fun w hS => t99_o (blk b32 19 (cbg own j (fun _ => (.int .i64 0)))) own b32 0 19 (cbg_rd2 h19 hz hjm) (by omega) (fun x hx => Nat.le_trans (h7 x hx) (by decide)) hS) ?_)))))))))
  rintro _ w56 ⟨rfl, hS⟩
  refine TW.at hS (TL.a m0 (TL.b (.hd .u6) (CT.seq (CT.q (TL.m m6 (TL.call (r_call ce_47 (.cons T0 .nil)) (fun w hS => t47 (r := false) (by decide) hS) ?_))))))
  rintro _ w58 ⟨rfl, hS⟩
  refine TW.at hS (TL.val (r_notf T0) (TL.b (.hd .u2) (CT.ift m0 ?_)))
  refine CT.sub .u1 (CT.ret (EX.then_ret (EX.perm p2 (EX.perm p1 (EX.perm p2 (EX.conv (fun _ h => h.tail) ?_))))))
  exact EX.perm p1 (EX.perm p1 (EX.end_ (.inl rfl) (res0 Tryz.results76) (fun _ hS => ⟨rfl, at_ + 5 + 5 + 4 + 3 * j, out, by omega, by omega, .inr ⟨he, hS⟩⟩)))
 refine CT.sub (ρ' := [(34, (i64 j)), (33, (i64 many)), (5, (.slice (some ⟨b32, 0, none⟩) own.length 19)), (3, (i64 nd)), (2, (i64 nl)), (0, (pt p 0))]) (.cons m0 (.cons m1 (.eq m2 (by rw [h19]) (.sl 3 3 rfl)))) (CT.region (TL.m m5 (TL.call (r_call ce_47 (.cons T0 .nil)) (fun w hS => t47 (r := true) (by decide) hS) ?_)))
 rintro _ w47 ⟨rfl, hS⟩
 refine TW.at hS (TL.b (.hd .u1) (CT.ift m0 ?_))
 refine CT.sub .u1 (CT.region (TL.m m5 (TL.m m3 (TL.perm p2 (TL.perm p1 (TL.call (r_call ce_98 (.cons T1 (.cons T0 .nil))) (fun w hS => t98_full (blk b32 19 (cbg own j (fun _ => (.int .i64 0)))) own b32 0 19 (cbg_rd2 h19 hz hjm) (by omega) (fun x hx => Nat.le_trans (h7 x hx) (by decide)) hfu hS) ?_))))))
 rintro _ w50 ⟨rfl, hS⟩
 refine TW.at hS (TL.r .u3 (TL.m m5 (TL.m m5 (TL.m m5 (TL.val (n_add nl nd 9223372036854775808 T1 T0) (TL.m m6 (TL.perm p1 (TL.perm p1 (TL.call (r_call ce_99 (.cons T4 (.cons T1 (.cons T0 .nil)))) (fun w hS => t99 (blk b32 19 (cbg own j (fun _ => (.int .i64 0)))) own b32 0 19 (cbg_rd2 h19 hz hjm) (by omega) (fun x hx => Nat.le_trans (h7 x hx) (by decide)) h19 hfu (by rw [hdb]; exact hrr) hkB hBl (by omega) hS) ?_)))))))))
 rintro v1 w56 ⟨kk, acc, hk1, hk2, ⟨ho, hS⟩ | ⟨hacc, hrr2, hS⟩⟩
 ·
  replace he := he ho
  refine TW.at hS (TL.a m0 (TL.b (.hd .u6) (CT.seq (CT.q (TL.m m6 (TL.call (r_call ce_47 (.cons T0 .nil)) (fun w hS => t47 (r := false) (by decide) hS) ?_))))))
  rintro _ w58 ⟨rfl, hS⟩
  refine TW.at hS (TL.val (r_notf T0) (TL.b (.hd .u2) (CT.ift m0 ?_)))
  refine CT.sub .u1 (CT.ret (EX.then_ret (EX.perm p2 (EX.perm p1 (EX.perm p2 (EX.conv (fun _ h => h.tail) ?_))))))
  exact EX.perm p1 (EX.perm p1 (EX.end_ (.inl rfl) (res0 Tryz.results76) (fun _ hS => ⟨rfl, kk, out, by omega, by omega, .inr ⟨he, hS⟩⟩)))
 refine TW.at hS (TL.a m0 (TL.b (.hd .u6) (CT.seq (CT.q (TL.m m6 (TL.call (r_call ce_47 (.cons T0 .nil)) (fun w hS => t47 (r := true) (by decide) hS) ?_))))))
 rintro _ w58 ⟨rfl, hS⟩
 refine TW.at hS (TL.val (r_nott T0) (TL.b (.hd .u2) (CT.iff_ m0 ?_)))
 refine CT.z (EX.seq (CT.seq ?_))
 obtain ⟨lit, dist, hacc2, hl1, hl2, h15, h256, hfin⟩ := hrr2.fin hacc
 refine CT.fold (A' := (slc 1 v1 ((lit ++ dist).length) ((lit ++ dist).map i64))) a1 (slc_eq (by rw [hacc2]) (by rw [hacc2])) ?_
 have hll : (lit ++ dist).length = nl + nd := by rw [List.length_append]; omega
 have h15l : ∀ x ∈ lit, x ≤ 15 := fun x hx => h15 x (List.mem_append_left _ hx)
 have h15d : ∀ x ∈ dist, x ≤ 15 := fun x hx => h15 x (List.mem_append_right _ hx)
 have hx256 := h256.1
 refine CT.peek m1 (by rw [hll]; omega) ?_
 intro e e_c e_v e_k e_l
 have hRl : ∀ {G w : World} {L : List HProp}, (slc 1 v1 ((lit ++ dist).length) ((lit ++ dist).map i64)) ∈ L → Sat G w L → ∀ j x, lit[j]? = some x → w.cell? ⟨e, 0 + j, none⟩ = some (i64 x) := fun hm hS j x hj => all_lit hm hS e_v hj
 have hRd : ∀ {G w : World} {L : List HProp}, (slc 1 v1 ((lit ++ dist).length) ((lit ++ dist).map i64)) ∈ L → Sat G w L → ∀ j x, dist[j]? = some x → w.cell? ⟨e, nl + j, none⟩ = some (i64 x) := fun hm hS j x hj => all_dist hl1 hm hS e_v hj
 refine CT.still fm (by kernel_rfl) ?_
 refine TS.m m0 (TS.m m6 (TS.val (r_slice (off' := 0) (m := nl) (c' := e_c) Tryz.underlying42 Tryz.sizeOf3 (.te m1 e_v) .no (.so (j := nl) T0 rfl) (by first | (show 0 ≤ nl; omega) | (show nl ≤ (lit ++ dist).length; rw [hll]; omega) | (show nl ≤ e_c; omega)) (by first | (show 0 ≤ nl; omega) | (show nl ≤ (lit ++ dist).length; rw [hll]; omega) | (show nl ≤ e_c; omega)) (by simp) (by simp) (by simp)) (TS.sub (ρ' := [(62, (.slice (some ⟨e, 0, none⟩) lit.length e_c)), (61, (i64 nl)), (60, v1), (7, v1), (34, (i64 j)), (33, (i64 many)), (5, (.slice (some ⟨b32, 0, none⟩) own.length 19)), (3, (i64 nd)), (2, (i64 nl)), (0, (pt p 0))]) (.eq m0 (by rw [hl1]) (.sl 1 9 rfl)) (TS.m m3 (TS.m m9 (TS.val (r_slice (off' := nl) (m := (lit ++ dist).length - nl) (c' := e_c - nl) Tryz.underlying42 Tryz.sizeOf3 (.te m1 e_v) (.so (j := nl) T0 rfl) .no (by first | (show nl ≤ (lit ++ dist).length; rw [hll]; omega) | (show (lit ++ dist).length ≤ e_c; omega)) (by first | (show nl ≤ (lit ++ dist).length; rw [hll]; omega) | (show (lit ++ dist).length ≤ e_c; omega)) (by show (if e_c = nl then 0 else 0 + nl * 1) = nl; rw [if_neg (by rw [hll] at e_k; omega)]; omega) (by simp) (by simp)) (TS.sub (ρ' := [(65, (.slice (some ⟨e, nl, none⟩) dist.length ((e_c - nl)))), (64, (i64 nl)), (63, v1), (62, (.slice (some ⟨e, 0, none⟩) lit.length e_c)), (61, (i64 nl)), (60, v1), (7, v1), (34, (i64 j)), (33, (i64 many)), (5, (.slice (some ⟨b32, 0, none⟩) own.length 19)), (3, (i64 nd)), (2, (i64 nl)), (0, (pt p 0))]) (.eq m0 (congrArg (fun z : Nat => Value.slice (some ⟨e, nl, none⟩) z _) (show (lit ++ dist).length - nl = dist.length by omega)) (.sl 1 12 rfl)) (TS.val (r_asg T3) (TS.val (r_asg T1) (TS.nil (TL.b (.hd (.hd .u7)) (CT.seq (CT.q (TL.m m1 (TL.val (r_ia (i := 256) (off' := 256) Tryz.underlying42 Tryz.sizeOf3 T0 .c rfl (by omega) rfl) (TL.val (r_ldc (v := (i64 (lit.getD 256 0))) Tryz.isAgg3 T0 (fun w hS => hRl m1 hS 256 _ (lens_get h256))) (TL.val (n_eql ((lit.getD 256 0)) 0 T0 .c) (TL.b (.hd .u3) (CT.ifd m0 (fun c69 => ?_) (fun c69 => ?_))))))))))))))))))))
 ·
  exact absurd h256.2.1 (by omega)
 refine CT.z (EX.seq (CT.seq ?_))
 rcases hfin with ⟨ho, hfl, hfd | hz0⟩ | ⟨ho, hovl | ⟨hfl, hovd⟩⟩
 ·
  have hus := usedN_two hfd
  have hht := hgo _ _ _ kk ho (by rw [List.length_drop]; omega)
  refine CT.region (TL.m m7 (TL.m m2 (TL.perm p1 (TL.perm p1 (TL.call (r_call ce_98 (.cons T1 (.cons T0 .nil))) (fun w hS => t98_full (slc 1 v1 ((lit ++ dist).length) ((lit ++ dist).map i64)) lit e 0 e_c hRl (by omega) h15l hfl hS) ?_)))))
  rintro _ w74 ⟨rfl, hS⟩
  refine TW.at hS (TL.b .u3 (CT.seq (CT.q (TL.m m0 (TL.perm p1 (TL.call (r_call ce_95 (.cons T0 .nil)) (fun w hS => t95 (slc 1 v1 ((lit ++ dist).length) ((lit ++ dist).map i64)) dist e nl (e_c - nl) hRd (by omega) h15d hS) ?_))))))
  rintro _ w76 ⟨rfl, hS⟩
  refine TW.at hS (TL.a m0 (TL.b (.hd .u2) (CT.cut (X := Bool) (fun gx => [(87, (.bool gx)), (9, (.slice (some ⟨e, nl, none⟩) dist.length ((e_c - nl)))), (8, (.slice (some ⟨e, 0, none⟩) lit.length e_c)), (34, (i64 j)), (33, (i64 many)), (5, (.slice (some ⟨b32, 0, none⟩) own.length 19)), (3, (i64 nd)), (2, (i64 nl)), (0, (pt p 0))]) (fun gx => (Sp p sv (B) kk (.slice dp dd.length dc) out ((-1))) :: DA :: slc 1 v1 ((lit ++ dist).length) ((lit ++ dist).map i64) :: R) (fun gx => gx = true) ?_ ?_)))
  ·
   refine CT.region (TL.m m0 (TL.val (n_gtr ((usedN dist dist.length)) 1 T0 .c) (TL.m m0 ?_)))
   by_cases g79 : 1 < (usedN dist dist.length)
   ·
    refine TL.sub (.eq m0 (congrArg Value.bool (decide_eq_true g79)) (.eq m1 (congrArg Value.bool (decide_eq_true g79)) (.cons m2 (.cons m3 (.cons m4 (.cons m5 (.cons m6 (.cons m7 (.cons m8 (.cons m9 (.cons m10 (.cons m11 .nil)))))))))))) (TL.gn m0 (TL.gn m0 (TL.gnu m0 (TL.gu m0 (TL.gu m1 (TL.gu m2 (TL.gn m4 (TL.val (r_pickt T4 .c) (TL.x (.hd .u8) (EX.perm p2 (EX.conv (fun _ h => h.tail) ?_)))))))))))
    exact EX.perm p2 (EX.perm p2 (EX.meet true (by first | rfl | (exfalso; omega)) (.refl _) (.sl 0 9 rfl)))
   refine TL.sub (.eq m0 (congrArg Value.bool (decide_eq_false g79)) (.eq m1 (congrArg Value.bool (decide_eq_false g79)) (.cons m2 (.cons m3 (.cons m4 (.cons m5 (.cons m6 (.cons m7 (.cons m8 (.cons m9 (.cons m10 (.cons m11 .nil)))))))))))) (TL.gv m0 (r_move T3) (TL.gv m1 (n_eql ((usedN dist dist.length)) 1 T0 .c) (TL.gv m2 (r_move T0) ?_)))
   by_cases g82 : (usedN dist dist.length) = 1
   ·
    refine TL.sub (.eq m0 (congrArg Value.bool (decide_eq_true g82)) (.eq m1 (congrArg Value.bool (decide_eq_true g82)) (.cons m2 (.cons m3 (.cons m4 (.cons m5 (.cons m6 (.cons m7 (.cons m8 (.cons m9 (.cons m10 (.cons m11 (.cons m12 (.cons m13 (.cons m14 .nil))))))))))))))) (TL.gv m0 (r_move T7) (TL.gcall m1 (r_call ce_62 (.cons T0 .nil)) (fun w hS => t62 (slc 1 v1 ((lit ++ dist).length) ((lit ++ dist).map i64)) dist e nl (e_c - nl) hRd (by omega) h15d hS) ?_))
    rintro _ w84 ⟨rfl, hS⟩
    refine TW.at hS (TL.gv m2 (r_neq T0 .c) (TL.gv m6 (r_pickt T3 T0) (TL.val (r_pickf T7 T0) (TL.x (.hd .u11) (EX.perm p2 (EX.conv (fun _ h => h.tail) ?_))))))
    exact EX.perm p2 (EX.perm p2 (EX.meet (decide (¬ ((32768 - ((kraft dist : Nat) : Int))) = 16384)) (by first | rfl | (exfalso; omega)) (.refl _) (.eq m0 (by first | rfl | (congr 1 <;> omega)) (.sl 1 8 rfl))))
   refine TL.sub (.eq m0 (congrArg Value.bool (decide_eq_false g82)) (.eq m1 (congrArg Value.bool (decide_eq_false g82)) (.cons m2 (.cons m3 (.cons m4 (.cons m5 (.cons m6 (.cons m7 (.cons m8 (.cons m9 (.cons m10 (.cons m11 (.cons m12 (.cons m13 (.cons m14 .nil))))))))))))))) (TL.gn m0 (TL.gn m0 (TL.gn m0 (TL.gv m3 (r_pickf T0 .c) (TL.val (r_pickf T4 T0) (TL.x (.hd .u8) (EX.perm p2 (EX.conv (fun _ h => h.tail) ?_))))))))
   exact EX.perm p2 (EX.perm p2 (EX.meet false (by first | rfl | (exfalso; omega)) (.refl _) (.sl 0 9 rfl)))
  rintro bq hbq
  refine CT.iff m0 (fun c87 => ?_) (fun c87 => ?_)
  ·
   refine CT.sub .u1 (CT.region (TL.m m7 (TL.m m1 (TL.perm p2 (TL.perm p1 (TL.call (r_call ce_98 (.cons T1 (.cons T0 .nil))) (fun w hS => t98_full (slc 1 v1 ((lit ++ dist).length) ((lit ++ dist).map i64)) dist e nl (e_c - nl) hRd (by omega) h15d hfd hS) ?_))))))
   rintro _ w90 ⟨rfl, hS⟩
   refine TW.at hS (TL.b .u3 (CT.region (TL.m m7 (TL.m m2 (TL.m m2 (TL.perm p1 (TL.perm p2 (TL.perm p2 (TL.call (r_call ce_74 (.cons T2 (.cons T1 (.cons T0 .nil)))) (fun w hS => t74 hDR hdd (slc 1 v1 ((lit ++ dist).length) ((lit ++ dist).map i64)) hRl hRd (by omega) (by omega) h15l h15d hfl (.inl hfd) h256 hht hk1 hBl hol hS) ?_)))))))))
   rintro _ w94 ⟨rfl, a', o', ha1, ha2, ⟨haf, hS⟩ | ⟨he, hS⟩⟩
   ·
    refine TW.at hS (TL.x .u4 (EX.perm p1 (EX.perm p1 (EX.perm p2 (EX.conv (fun _ h => h.tail) ?_)))))
    exact EX.perm p1 (EX.perm p1 (EX.end_ (.inr rfl) (res0 Tryz.results76) (fun _ hS => ⟨rfl, a', o', by omega, ha2, .inl ⟨haf, hS⟩⟩)))
   refine TW.at hS (TL.x .u4 (EX.perm p1 (EX.perm p1 (EX.perm p2 (EX.conv (fun _ h => h.tail) ?_)))))
   exact EX.perm p1 (EX.perm p1 (EX.end_ (.inr rfl) (res0 Tryz.results76) (fun _ hS => ⟨rfl, a', o', by omega, ha2, .inr ⟨he, hS⟩⟩)))
  exact absurd (hbq.symm.trans c87) (by decide)
 ·
  have hus := usedN_zero hz0 dist.length
  have hht := hgo _ _ _ kk ho (by rw [List.length_drop]; omega)
  refine CT.region (TL.m m7 (TL.m m2 (TL.perm p1 (TL.perm p1 (TL.call (r_call ce_98 (.cons T1 (.cons T0 .nil))) (fun w hS => t98_full (slc 1 v1 ((lit ++ dist).length) ((lit ++ dist).map i64)) lit e 0 e_c hRl (by omega) h15l hfl hS) ?_)))))
  rintro _ w74 ⟨rfl, hS⟩
  refine TW.at hS (TL.b .u3 (CT.seq (CT.q (TL.m m0 (TL.perm p1 (TL.call (r_call ce_95 (.cons T0 .nil)) (fun w hS => t95 (slc 1 v1 ((lit ++ dist).length) ((lit ++ dist).map i64)) dist e nl (e_c - nl) hRd (by omega) h15d hS) ?_))))))
  rintro _ w76 ⟨rfl, hS⟩
  refine TW.at hS (TL.a m0 (TL.b (.hd .u2) (CT.cut (X := Bool) (fun gx => [(87, (.bool gx)), (9, (.slice (some ⟨e, nl, none⟩) dist.length ((e_c - nl)))), (8, (.slice (some ⟨e, 0, none⟩) lit.length e_c)), (34, (i64 j)), (33, (i64 many)), (5, (.slice (some ⟨b32, 0, none⟩) own.length 19)), (3, (i64 nd)), (2, (i64 nl)), (0, (pt p 0))]) (fun gx => (Sp p sv (B) kk (.slice dp dd.length dc) out ((-1))) :: DA :: slc 1 v1 ((lit ++ dist).length) ((lit ++ dist).map i64) :: R) (fun gx => gx = false) ?_ ?_)))
  ·
   refine CT.region (TL.m m0 (TL.val (n_gtr ((usedN dist dist.length)) 1 T0 .c) (TL.m m0 ?_)))
   by_cases g79 : 1 < (usedN dist dist.length)
   ·
    refine TL.sub (.eq m0 (congrArg Value.bool (decide_eq_true g79)) (.eq m1 (congrArg Value.bool (decide_eq_true g79)) (.cons m2 (.cons m3 (.cons m4 (.cons m5 (.cons m6 (.cons m7 (.cons m8 (.cons m9 (.cons m10 (.cons m11 .nil)))))))))))) (TL.gn m0 (TL.gn m0 (TL.gnu m0 (TL.gu m0 (TL.gu m1 (TL.gu m2 (TL.gn m4 (TL.val (r_pickt T4 .c) (TL.x (.hd .u8) (EX.perm p2 (EX.conv (fun _ h => h.tail) ?_)))))))))))
    exact EX.perm p2 (EX.perm p2 (EX.meet true (by first | rfl | (exfalso; omega) | exact decide_eq_false (by omega)) (.refl _) (.sl 0 9 rfl)))
   refine TL.sub (.eq m0 (congrArg Value.bool (decide_eq_false g79)) (.eq m1 (congrArg Value.bool (decide_eq_false g79)) (.cons m2 (.cons m3 (.cons m4 (.cons m5 (.cons m6 (.cons m7 (.cons m8 (.cons m9 (.cons m10 (.cons m11 .nil)))))))))))) (TL.gv m0 (r_move T3) (TL.gv m1 (n_eql ((usedN dist dist.length)) 1 T0 .c) (TL.gv m2 (r_move T0) ?_)))
   by_cases g82 : (usedN dist dist.length) = 1
   ·
    refine TL.sub (.eq m0 (congrArg Value.bool (decide_eq_true g82)) (.eq m1 (congrArg Value.bool (decide_eq_true g82)) (.cons m2 (.cons m3 (.cons m4 (.cons m5 (.cons m6 (.cons m7 (.cons m8 (.cons m9 (.cons m10 (.cons m11 (.cons m12 (.cons m13 (.cons m14 .nil))))))))))))))) (TL.gv m0 (r_move T7) (TL.gcall m1 (r_call ce_62 (.cons T0 .nil)) (fun w hS => t62 (slc 1 v1 ((lit ++ dist).length) ((lit ++ dist).map i64)) dist e nl (e_c - nl) hRd (by omega) h15d hS) ?_))
    rintro _ w84 ⟨rfl, hS⟩
    refine TW.at hS (TL.gv m2 (r_neq T0 .c) (TL.gv m6 (r_pickt T3 T0) (TL.val (r_pickf T7 T0) (TL.x (.hd .u11) (EX.perm p2 (EX.conv (fun _ h => h.tail) ?_))))))
    exact EX.perm p2 (EX.perm p2 (EX.meet (decide (¬ ((32768 - ((kraft dist : Nat) : Int))) = 16384)) (by first | rfl | (exfalso; omega) | exact decide_eq_false (by omega)) (.refl _) (.eq m0 (by first | rfl | (congr 1 <;> omega)) (.sl 1 8 rfl))))
   refine TL.sub (.eq m0 (congrArg Value.bool (decide_eq_false g82)) (.eq m1 (congrArg Value.bool (decide_eq_false g82)) (.cons m2 (.cons m3 (.cons m4 (.cons m5 (.cons m6 (.cons m7 (.cons m8 (.cons m9 (.cons m10 (.cons m11 (.cons m12 (.cons m13 (.cons m14 .nil))))))))))))))) (TL.gn m0 (TL.gn m0 (TL.gn m0 (TL.gv m3 (r_pickf T0 .c) (TL.val (r_pickf T4 T0) (TL.x (.hd .u8) (EX.perm p2 (EX.conv (fun _ h => h.tail) ?_))))))))
   exact EX.perm p2 (EX.perm p2 (EX.meet false (by first | rfl | (exfalso; omega) | exact decide_eq_false (by omega)) (.refl _) (.sl 0 9 rfl)))
  rintro bq hbq
  refine CT.iff m0 (fun c87 => ?_) (fun c87 => ?_)
  ·
   exact absurd (c87.symm.trans hbq) (by decide)
  refine CT.z (EX.seq (CT.region (TL.m m7 (TL.m m2 (TL.m m2 (TL.perm p2 (TL.perm p2 (TL.perm p2 (TL.call (r_call ce_74 (.cons T2 (.cons T1 (.cons T0 .nil)))) (fun w hS => t74 hDR hdd (slc 1 v1 ((lit ++ dist).length) ((lit ++ dist).map i64)) hRl hRd (by omega) (by omega) h15l h15d hfl (.inr hz0) h256 hht hk1 hBl hol hS) ?_)))))))))
  rintro _ w94 ⟨rfl, a', o', ha1, ha2, ⟨haf, hS⟩ | ⟨he, hS⟩⟩
  ·
   refine TW.at hS (TL.x .u4 (EX.perm p1 (EX.perm p1 (EX.perm p2 (EX.conv (fun _ h => h.tail) ?_)))))
   exact EX.perm p1 (EX.perm p1 (EX.end_ (.inr rfl) (res0 Tryz.results76) (fun _ hS => ⟨rfl, a', o', by omega, ha2, .inl ⟨haf, hS⟩⟩)))
  refine TW.at hS (TL.x .u4 (EX.perm p1 (EX.perm p1 (EX.perm p2 (EX.conv (fun _ h => h.tail) ?_)))))
  exact EX.perm p1 (EX.perm p1 (EX.end_ (.inr rfl) (res0 Tryz.results76) (fun _ hS => ⟨rfl, a', o', by omega, ha2, .inr ⟨he, hS⟩⟩)))
 ·
  replace he := he ho
  refine CT.region (TL.m m7 (TL.m m2 (TL.perm p1 (TL.perm p1 (TL.call (r_call ce_98 (.cons T1 (.cons T0 .nil))) (fun w hS => t98_over (slc 1 v1 ((lit ++ dist).length) ((lit ++ dist).map i64)) lit e 0 e_c hRl (by omega) h15l hovl hS) ?_)))))
  rintro _ w74 ⟨rfl, hS⟩
  refine TW.at hS (TL.b .u3 (CT.seq (CT.q (TL.m m0 (TL.perm p1 (TL.call (r_call ce_95 (.cons T0 .nil)) (fun w hS => t95 (slc 1 v1 ((lit ++ dist).length) ((lit ++ dist).map i64)) dist e nl (e_c - nl) hRd (by omega) h15d hS) ?_))))))
  rintro _ w76 ⟨rfl, hS⟩
  refine TW.at hS (TL.a m0 (TL.b (.hd .u2) (CT.cut (X := Bool) (fun gx => [(87, (.bool gx)), (9, (.slice (some ⟨e, nl, none⟩) dist.length ((e_c - nl)))), (8, (.slice (some ⟨e, 0, none⟩) lit.length e_c)), (34, (i64 j)), (33, (i64 many)), (5, (.slice (some ⟨b32, 0, none⟩) own.length 19)), (3, (i64 nd)), (2, (i64 nl)), (0, (pt p 0))]) (fun gx => (Sp p sv (B) kk (.slice dp dd.length dc) out 2) :: DA :: slc 1 v1 ((lit ++ dist).length) ((lit ++ dist).map i64) :: R) (fun gx => True) ?_ ?_)))
  ·
   refine CT.region (TL.m m0 (TL.val (n_gtr ((usedN dist dist.length)) 1 T0 .c) (TL.m m0 ?_)))
   by_cases g79 : 1 < (usedN dist dist.length)
   ·
    refine TL.sub (.eq m0 (congrArg Value.bool (decide_eq_true g79)) (.eq m1 (congrArg Value.bool (decide_eq_true g79)) (.cons m2 (.cons m3 (.cons m4 (.cons m5 (.cons m6 (.cons m7 (.cons m8 (.cons m9 (.cons m10 (.cons m11 .nil)))))))))))) (TL.gn m0 (TL.gn m0 (TL.gnu m0 (TL.gu m0 (TL.gu m1 (TL.gu m2 (TL.gn m4 (TL.val (r_pickt T4 .c) (TL.x (.hd .u8) (EX.perm p2 (EX.conv (fun _ h => h.tail) ?_)))))))))))
    exact EX.perm p2 (EX.perm p2 (EX.meet true trivial (.refl _) (.sl 0 9 rfl)))
   refine TL.sub (.eq m0 (congrArg Value.bool (decide_eq_false g79)) (.eq m1 (congrArg Value.bool (decide_eq_false g79)) (.cons m2 (.cons m3 (.cons m4 (.cons m5 (.cons m6 (.cons m7 (.cons m8 (.cons m9 (.cons m10 (.cons m11 .nil)))))))))))) (TL.gv m0 (r_move T3) (TL.gv m1 (n_eql ((usedN dist dist.length)) 1 T0 .c) (TL.gv m2 (r_move T0) ?_)))
   by_cases g82 : (usedN dist dist.length) = 1
   ·
    refine TL.sub (.eq m0 (congrArg Value.bool (decide_eq_true g82)) (.eq m1 (congrArg Value.bool (decide_eq_true g82)) (.cons m2 (.cons m3 (.cons m4 (.cons m5 (.cons m6 (.cons m7 (.cons m8 (.cons m9 (.cons m10 (.cons m11 (.cons m12 (.cons m13 (.cons m14 .nil))))))))))))))) (TL.gv m0 (r_move T7) (TL.gcall m1 (r_call ce_62 (.cons T0 .nil)) (fun w hS => t62 (slc 1 v1 ((lit ++ dist).length) ((lit ++ dist).map i64)) dist e nl (e_c - nl) hRd (by omega) h15d hS) ?_))
    rintro _ w84 ⟨rfl, hS⟩
    refine TW.at hS (TL.gv m2 (r_neq T0 .c) (TL.gv m6 (r_pickt T3 T0) (TL.val (r_pickf T7 T0) (TL.x (.hd .u11) (EX.perm p2 (EX.conv (fun _ h => h.tail) ?_))))))
    exact EX.perm p2 (EX.perm p2 (EX.meet (decide (¬ ((32768 - ((kraft dist : Nat) : Int))) = 16384)) trivial (.refl _) (.eq m0 (by first | rfl | (congr 1 <;> omega)) (.sl 1 8 rfl))))
   refine TL.sub (.eq m0 (congrArg Value.bool (decide_eq_false g82)) (.eq m1 (congrArg Value.bool (decide_eq_false g82)) (.cons m2 (.cons m3 (.cons m4 (.cons m5 (.cons m6 (.cons m7 (.cons m8 (.cons m9 (.cons m10 (.cons m11 (.cons m12 (.cons m13 (.cons m14 .nil))))))))))))))) (TL.gn m0 (TL.gn m0 (TL.gn m0 (TL.gv m3 (r_pickf T0 .c) (TL.val (r_pickf T4 T0) (TL.x (.hd .u8) (EX.perm p2 (EX.conv (fun _ h => h.tail) ?_))))))))
   exact EX.perm p2 (EX.perm p2 (EX.meet false trivial (.refl _) (.sl 0 9 rfl)))
  rintro bq hbq
  refine CT.iff m0 (fun c87 => ?_) (fun c87 => ?_)
  ·
   refine CT.sub .u1 (CT.region (TL.m m7 (TL.m m1 (TL.perm p2 (TL.perm p1 (TL.call (r_call ce_98 (.cons T1 (.cons T0 .nil))) (fun w hS => t98_off (slc 1 v1 ((lit ++ dist).length) ((lit ++ dist).map i64)) dist e nl (e_c - nl) hRd (by omega) h15d (by decide) hS) ?_))))))
   rintro _ w90 ⟨rfl, hS⟩
   refine TW.at hS (TL.b .u3 (CT.region (TL.m m7 (TL.m m2 (TL.m m2 (TL.perm p1 (TL.perm p1 (TL.call (r_call ce_74 (.cons T2 (.cons T1 (.cons T0 .nil)))) (fun w hS => t74_o (slc 1 v1 ((lit ++ dist).length) ((lit ++ dist).map i64)) hRl hRd (by omega) (by omega) h15l h15d hS) ?_))))))))
   rintro _ w94 ⟨rfl, hS⟩
   refine TW.at hS (TL.x .u4 (EX.perm p2 (EX.perm p1 (EX.perm p2 (EX.conv (fun _ h => h.tail) ?_)))))
   exact EX.perm p1 (EX.perm p1 (EX.end_ (.inr rfl) (res0 Tryz.results76) (fun _ hS => ⟨rfl, kk, out, by omega, by omega, .inr ⟨he, hS⟩⟩)))
  refine CT.z (EX.seq (CT.region (TL.m m7 (TL.m m2 (TL.m m2 (TL.perm p2 (TL.perm p1 (TL.call (r_call ce_74 (.cons T2 (.cons T1 (.cons T0 .nil)))) (fun w hS => t74_o (slc 1 v1 ((lit ++ dist).length) ((lit ++ dist).map i64)) hRl hRd (by omega) (by omega) h15l h15d hS) ?_))))))))
  rintro _ w94 ⟨rfl, hS⟩
  refine TW.at hS (TL.x .u4 (EX.perm p2 (EX.perm p1 (EX.perm p2 (EX.conv (fun _ h => h.tail) ?_)))))
  exact EX.perm p1 (EX.perm p1 (EX.end_ (.inr rfl) (res0 Tryz.results76) (fun _ hS => ⟨rfl, kk, out, by omega, by omega, .inr ⟨he, hS⟩⟩)))
 have hus := usedN_over hovd h15d
 replace he := he ho
 refine CT.region (TL.m m7 (TL.m m2 (TL.perm p1 (TL.perm p1 (TL.call (r_call ce_98 (.cons T1 (.cons T0 .nil))) (fun w hS => t98_full (slc 1 v1 ((lit ++ dist).length) ((lit ++ dist).map i64)) lit e 0 e_c hRl (by omega) h15l hfl hS) ?_)))))
 rintro _ w74 ⟨rfl, hS⟩
 refine TW.at hS (TL.b .u3 (CT.seq (CT.q (TL.m m0 (TL.perm p1 (TL.call (r_call ce_95 (.cons T0 .nil)) (fun w hS => t95 (slc 1 v1 ((lit ++ dist).length) ((lit ++ dist).map i64)) dist e nl (e_c - nl) hRd (by omega) h15d hS) ?_))))))
 rintro _ w76 ⟨rfl, hS⟩
 refine TW.at hS (TL.a m0 (TL.b (.hd .u2) (CT.cut (X := Bool) (fun gx => [(87, (.bool gx)), (9, (.slice (some ⟨e, nl, none⟩) dist.length ((e_c - nl)))), (8, (.slice (some ⟨e, 0, none⟩) lit.length e_c)), (34, (i64 j)), (33, (i64 many)), (5, (.slice (some ⟨b32, 0, none⟩) own.length 19)), (3, (i64 nd)), (2, (i64 nl)), (0, (pt p 0))]) (fun gx => (Sp p sv (B) kk (.slice dp dd.length dc) out ((-1))) :: DA :: slc 1 v1 ((lit ++ dist).length) ((lit ++ dist).map i64) :: R) (fun gx => gx = true) ?_ ?_)))
 ·
  refine CT.region (TL.m m0 (TL.val (n_gtr ((usedN dist dist.length)) 1 T0 .c) (TL.m m0 ?_)))
  by_cases g79 : 1 < (usedN dist dist.length)
  ·
   refine TL.sub (.eq m0 (congrArg Value.bool (decide_eq_true g79)) (.eq m1 (congrArg Value.bool (decide_eq_true g79)) (.cons m2 (.cons m3 (.cons m4 (.cons m5 (.cons m6 (.cons m7 (.cons m8 (.cons m9 (.cons m10 (.cons m11 .nil)))))))))))) (TL.gn m0 (TL.gn m0 (TL.gnu m0 (TL.gu m0 (TL.gu m1 (TL.gu m2 (TL.gn m4 (TL.val (r_pickt T4 .c) (TL.x (.hd .u8) (EX.perm p2 (EX.conv (fun _ h => h.tail) ?_)))))))))))
   exact EX.perm p2 (EX.perm p2 (EX.meet true (by first | rfl | (exfalso; omega)) (.refl _) (.sl 0 9 rfl)))
  refine TL.sub (.eq m0 (congrArg Value.bool (decide_eq_false g79)) (.eq m1 (congrArg Value.bool (decide_eq_false g79)) (.cons m2 (.cons m3 (.cons m4 (.cons m5 (.cons m6 (.cons m7 (.cons m8 (.cons m9 (.cons m10 (.cons m11 .nil)))))))))))) (TL.gv m0 (r_move T3) (TL.gv m1 (n_eql ((usedN dist dist.length)) 1 T0 .c) (TL.gv m2 (r_move T0) ?_)))
  by_cases g82 : (usedN dist dist.length) = 1
  ·
   refine TL.sub (.eq m0 (congrArg Value.bool (decide_eq_true g82)) (.eq m1 (congrArg Value.bool (decide_eq_true g82)) (.cons m2 (.cons m3 (.cons m4 (.cons m5 (.cons m6 (.cons m7 (.cons m8 (.cons m9 (.cons m10 (.cons m11 (.cons m12 (.cons m13 (.cons m14 .nil))))))))))))))) (TL.gv m0 (r_move T7) (TL.gcall m1 (r_call ce_62 (.cons T0 .nil)) (fun w hS => t62 (slc 1 v1 ((lit ++ dist).length) ((lit ++ dist).map i64)) dist e nl (e_c - nl) hRd (by omega) h15d hS) ?_))
   rintro _ w84 ⟨rfl, hS⟩
   refine TW.at hS (TL.gv m2 (r_neq T0 .c) (TL.gv m6 (r_pickt T3 T0) (TL.val (r_pickf T7 T0) (TL.x (.hd .u11) (EX.perm p2 (EX.conv (fun _ h => h.tail) ?_))))))
   exact EX.perm p2 (EX.perm p2 (EX.meet (decide (¬ ((32768 - ((kraft dist : Nat) : Int))) = 16384)) (by first | rfl | (exfalso; omega)) (.refl _) (.eq m0 (by first | rfl | (congr 1 <;> omega)) (.sl 1 8 rfl))))
  refine TL.sub (.eq m0 (congrArg Value.bool (decide_eq_false g82)) (.eq m1 (congrArg Value.bool (decide_eq_false g82)) (.cons m2 (.cons m3 (.cons m4 (.cons m5 (.cons m6 (.cons m7 (.cons m8 (.cons m9 (.cons m10 (.cons m11 (.cons m12 (.cons m13 (.cons m14 .nil))))))))))))))) (TL.gn m0 (TL.gn m0 (TL.gn m0 (TL.gv m3 (r_pickf T0 .c) (TL.val (r_pickf T4 T0) (TL.x (.hd .u8) (EX.perm p2 (EX.conv (fun _ h => h.tail) ?_))))))))
  exact EX.perm p2 (EX.perm p2 (EX.meet false (by first | rfl | (exfalso; omega)) (.refl _) (.sl 0 9 rfl)))
 rintro bq hbq
 refine CT.iff m0 (fun c87 => ?_) (fun c87 => ?_)
 ·
  refine CT.sub .u1 (CT.region (TL.m m7 (TL.m m1 (TL.perm p2 (TL.perm p1 (TL.call (r_call ce_98 (.cons T1 (.cons T0 .nil))) (fun w hS => t98_over (slc 1 v1 ((lit ++ dist).length) ((lit ++ dist).map i64)) dist e nl (e_c - nl) hRd (by omega) h15d hovd hS) ?_))))))
  rintro _ w90 ⟨rfl, hS⟩
  refine TW.at hS (TL.b .u3 (CT.region (TL.m m7 (TL.m m2 (TL.m m2 (TL.perm p1 (TL.perm p1 (TL.call (r_call ce_74 (.cons T2 (.cons T1 (.cons T0 .nil)))) (fun w hS => t74_o (slc 1 v1 ((lit ++ dist).length) ((lit ++ dist).map i64)) hRl hRd (by omega) (by omega) h15l h15d hS) ?_))))))))
  rintro _ w94 ⟨rfl, hS⟩
  refine TW.at hS (TL.x .u4 (EX.perm p2 (EX.perm p1 (EX.perm p2 (EX.conv (fun _ h => h.tail) ?_)))))
  exact EX.perm p1 (EX.perm p1 (EX.end_ (.inr rfl) (res0 Tryz.results76) (fun _ hS => ⟨rfl, kk, out, by omega, by omega, .inr ⟨he, hS⟩⟩)))
 exact absurd (hbq.symm.trans c87) (by decide)
end Go.Eng
namespace Go.Eng
open Go Go.Proofs Go.Infl
theorem head3 {fin : Bool} {typ : Nat} (h : typ ≤ 3) : nbits 3 (Bool.toNat fin + 2 * typ) = fin :: nbits 2 typ := by
 have : typ = 0 ∨ typ = 1 ∨ typ = 2 ∨ typ = 3 := by omega
 rcases this with rfl | rfl | rfl | rfl <;> cases fin <;> rfl
theorem stored_drop {B ps rest : List Bool} {xs : List Nat} {k m : Nat} (hd : B.drop k = ps ++ (nbits 16 xs.length ++ (nbits 16 m ++ (xs.flatMap (nbits 8) ++ rest)))) : B.drop (k + ps.length + 32 + 8 * xs.length) = rest := by
 have h1 := drop_app hd
 have h2 := drop_app h1
 rw [nbits_length] at h2
 have h3 := drop_app h2
 rw [nbits_length] at h3
 have h4 := drop_app h3
 rw [bits8_length] at h4
 exact h4
theorem sep_slc {l : List HProp} {v : Value} {k b c j : Nat} {x : Nat} {cs : List Nat} {G w : World} {L : List HProp} (hm : sep l ∈ L) (h : Sat G w L) (hx : slc 1 v k (cs.map i64) ∈ l) (hv : v = .slice (some ⟨b, 0, none⟩) k c) (hj : cs[j]? = some x) : w.cell? ⟨b, 0 + j, none⟩ = some (i64 x) := by
 obtain ⟨m, h1, h2⟩ := h.obj hm
 obtain ⟨m', h3, h4⟩ := SatL.get hx h1
 obtain ⟨hl, h5⟩ := h3
 subst hv
 rcases h5 with ⟨e, _⟩ | ⟨b', c', F, e, e2, ⟨cs', T, e3, e4, e5⟩, e6⟩
 ·
  cases e
 cases e
 have hc := (h2 _ _ (h4 _ _ e3)).2
 have hlt := (List.getElem?_eq_some_iff.1 hj).1
 rw [List.length_map] at hl
 simp [World.cell?, hc, e5 j (by omega), e6 j (i64 x) (by rw [List.getElem?_map, hj]; rfl)]
theorem fixLit_15 : ∀ x ∈ fixLit, x ≤ 15 := by
 intro x hx
 obtain ⟨i, _, rfl⟩ := List.mem_map.1 hx
 unfold fl
 split
 ·
  decide
 split <;> decide
theorem fixDist_15 : ∀ x ∈ fixDist, x ≤ 15 := fun x hx => by rw [List.eq_of_mem_replicate hx]; decide
theorem dict_DRd {dv : Value} {D : List Nat} {db dbc : Nat} (hd1 : dv = .slice (some ⟨db, 0, none⟩) D.length dbc) (hd2 : D.length ≤ dbc) :
 DRd (slc 1 dv (D.length) (D.map u8)) (.slice (some ⟨db, (if dbc = D.length - 32768 then 0 else (D.length - 32768)), none⟩) (D.drop (D.length - 32768)).length (dbc - (D.length - 32768))) (D.drop (D.length - 32768)) := by
 refine .inr ⟨db, _, _, rfl, fun hm hS j x hj => ?_⟩
 rw [List.getElem?_drop] at hj
 have hlt := (List.getElem?_eq_some_iff.1 hj).1
 have e : (if dbc = D.length - 32768 then 0 else (D.length - 32768)) = D.length - 32768 := by split <;> omega
 rw [e]
 exact hS.slc_cell hm hd1 (by rw [List.getElem?_map, hj]; rfl)
theorem t73_b {p at_ : Nat} {sv dv : Value} {B : List Bool} {out : List Nat} (ps : List Bool) (n m : Nat) {rest : List Bool} (hA : B.length < 9223372036854775000) (hps : ps.length < 8) (hal : (at_ + ps.length) % 8 = 0) (hn : n < 65536) (hm : m < 65536) (hnm : n + m ≠ 65535) (hd : B.drop at_ = ps ++ (nbits 16 n ++ (nbits 16 m ++ rest))) {G : World} {R : List HProp} {w : World} (hS : Sat G w ((Sp p sv (B) at_ dv out ((-1))) :: R)) :
 CallsR Tryz.prog 73 #[(pt p 0)] w (fun v w' => v = .tuple #[] ∧ Sat G w' (Sp p sv B (at_ + ps.length + 16 + 16) dv out 2 :: R)) := by
 have hlen := congrArg List.length hd
 simp only [List.length_drop, List.length_append, nbits_length] at hlen
 have hd1 := drop_app hd
 have hd2 := drop_app hd1
 rw [nbits_length] at hd2
 refine calls_in (n := 45) [(0, (pt p 0))] Tryz.func73 rfl rfl hS args1 ?_
 refine CT.seq (CT.sp ?_)
 intro ov1
 refine CT.region (TL.m m0 (TL.m m1 (TL.c m0 (TL.f 1 fo_56_1 m0 (TL.val (r_ld (v := (i64 at_)) Tryz.isAgg3 m0 T0 (by decide) rfl) (TL.val (n_add at_ 7 9223372036854775808 T0 .c) (TL.val (n_quo ((at_ + 7)) 8 9223372036854775808 T0 .c rfl rfl (by omega) (by omega)) (TL.val (n_mul (((at_ + 7) / 8)) 8 9223372036854775808 T0 .c) (TL.c m7 (TL.f 1 fo_56_1 m0 (TL.s (r_stl (l' := [sv, (i64 (((at_ + 7) / 8) * 8)), dv, ov1, (.int .i64 ((-1)))]) Tryz.sizeOf3 a0 T0 T2 (by decide)) (TL.sub .u10 (TL.perm p2 (TL.perm p2 (TL.perm p2 (TL.unsp ?_))))))))))))))))
 refine TL.fold (A' := (Sp p sv (B) (at_ + ps.length) dv out ((-1)))) a0 (Sp_eq (by omega) rfl) ?_
 refine TL.q (TL.m m0 (TL.call (r_call ce_72 (.cons T0 (.cons .c .nil))) (fun w hS => t72 n 16 (rest := (nbits 16 m ++ rest)) (by omega) (by decide) hn hd1 hS) ?_))
 rintro _ w17 ⟨rfl, hS⟩
 refine TW.at hS (TL.a m0 (TL.r (.hd .u2) (TL.m m1 (TL.call (r_call ce_72 (.cons T0 (.cons .c .nil))) (fun w hS => t72 m 16 (rest := rest) (by omega) (by decide) hm hd2 hS) ?_))))
 rintro _ w19 ⟨rfl, hS⟩
 refine TW.at hS (TL.a m0 (TL.b (.hd .u2) (CT.seq (CT.q (TL.m m2 (TL.call (r_call ce_47 (.cons T0 .nil)) (fun w hS => t47 (r := true) (by decide) hS) ?_))))))
 rintro _ w21 ⟨rfl, hS⟩
 refine TW.at hS (TL.m m0 (TL.gv m0 (r_move T4) (TL.gv m1 (r_move T4) (TL.gv m2 (n_add (n) (m) 9223372036854775808 T1 T0) (TL.gv m3 (n_neq ((n + m)) 65535 T0 .c) (TL.val (r_pickt T4 T0) (TL.b (.hd .u8) (CT.ifd m0 (fun c27 => ?_) (fun c27 => ?_)))))))))
 ·
  refine CT.sub .u1 (CT.region (TL.m m1 (TL.call (r_call ce_49 (.cons T0 (.cons .c .nil))) (fun w hS => t49_1 hS) ?_)))
  rintro _ w29 ⟨rfl, hS⟩
  refine TW.at hS (TL.r .u2 (TL.val (r_asg .c) (TL.e (CT.block (CT.loop (X := Unit) (fun gx => [(4, (.int .i64 0)), (2, (i64 n)), (0, (pt p 0))]) (fun gx => (Sp p sv (B) (at_ + ps.length + 16 + 16) dv out 2) :: R) (fun gx => True) (fun gx => 0) () trivial (.refl _) (.sl 0 3 rfl) ?_)))))
  rintro u -
  show CT _ _ _ [(4, (.int .i64 0)), (2, (i64 n)), (0, (pt p 0))] _ _ ((Sp p sv (B) (at_ + ps.length + 16 + 16) dv out 2) :: R)
  refine CT.seq (CT.q (TL.m m0 (TL.m m2 (TL.val (n_lss 0 (n) T1 T0) (TL.m m0 ?_)))))
  by_cases g33 : 0 < (n)
  ·
   refine TL.sub (.eq m0 (congrArg Value.bool (decide_eq_true g33)) (.eq m1 (congrArg Value.bool (decide_eq_true g33)) (.cons m2 (.cons m3 (.cons m4 (.cons m5 (.cons m6 .nil))))))) (TL.gv m0 (r_move T6) (TL.gcall m1 (r_call ce_47 (.cons T0 .nil)) (fun w hS => t47 (r := false) (by decide) hS) ?_))
   rintro _ w35 ⟨rfl, hS⟩
   refine TW.at hS (TL.val (r_pickt T2 T0) (TL.b (.hd .u6) (CT.iff_ m0 ?_)))
   exact CT.sub .u1 (CT.exit (EX.then_exit (EX.then_exit (EX.out (EX.end_ (.inr rfl) (res0 Tryz.results73) (fun _ hS => ⟨rfl, hS⟩))))))
  refine TL.sub (.eq m0 (congrArg Value.bool (decide_eq_false g33)) (.eq m1 (congrArg Value.bool (decide_eq_false g33)) (.cons m2 (.cons m3 (.cons m4 (.cons m5 (.cons m6 .nil))))))) (TL.gn m0 (TL.gn m0 (TL.val (r_pickf T0 .c) (TL.b (.hd .u4) (CT.iff_ m0 ?_)))))
  exact CT.sub .u1 (CT.exit (EX.then_exit (EX.then_exit (EX.out (EX.end_ (.inr rfl) (res0 Tryz.results73) (fun _ hS => ⟨rfl, hS⟩))))))
 exfalso; omega
theorem t48 {p at_ dc typ : Nat} {sv : Value} {dp : Option Addr} {B rest3 : List Bool} {out dd : List Nat} {DA : HProp} {fin : Bool} {hF : List Nat × Bool} (hDR : DRd DA (.slice dp dd.length dc) dd) (hdd : dd.length ≤ 32768) (hd0 : B.drop at_ = nbits 3 (Bool.toNat fin + 2 * typ) ++ rest3) (htyp : typ ≤ 3) (hb3 : Blk3 fin at_ (dd ++ out) hF typ rest3) (hBl : B.length < 1099511627776) (hol : hF.1.length ≤ dd.length + 131072) {G : World} {R : List HProp} {w : World} (hS : Sat G w ((Sp p sv (B) at_ (.slice dp dd.length dc) out ((-1))) :: DA :: R)) :
 CallsR Tryz.prog 48 #[(pt p 0)] w (fun v w' => v = .bool fin ∧ ∃ (at' : Nat) (out' : List Nat), at_ < at' ∧ at' ≤ B.length ∧ ((After fin at' (B.drop at') (dd ++ out') hF ∧ Sat G w' (Sp p sv B at' (.slice dp dd.length dc) out' (-1) :: DA :: R)) ∨ (hF = (dd ++ out', false) ∧ Sat G w' (Sp p sv B at' (.slice dp dd.length dc) out' 2 :: DA :: R)))) := by
 have hd1 : B.drop at_ = fin :: (nbits 2 typ ++ rest3) := by rw [hd0, head3 htyp]; rfl
 have hd2 := (drop_cons hd1).2.2
 have hd3 := drop_app hd2
 rw [nbits_length] at hd3
 have hlen := congrArg List.length hd1
 simp only [List.length_drop, List.length_append, List.length_cons, nbits_length] at hlen
 refine calls_in (n := 27) [(0, (pt p 0))] Tryz.func48 rfl rfl hS args1 ?_
 refine CT.q (TL.val (r_asg .c) (TL.q (TL.m m1 (TL.call (r_call ce_71 (.cons T0 .nil)) (fun w hS => t71 (b := fin) (rest := (nbits 2 typ ++ rest3)) (by omega) hd1 hS) ?_))))
 rintro _ w5 ⟨rfl, hS⟩
 refine TW.at hS (TL.a m0 (TL.b (.hd .u2) (CT.seq (CT.q (TL.m m2 (TL.call (r_call ce_72 (.cons T0 (.cons .c .nil))) (fun w hS => t72 typ 2 (rest := rest3) (by omega) (by decide) (by omega) hd2 hS) ?_))))))
 rintro _ w7 ⟨rfl, hS⟩
 refine TW.at hS (TL.b (.hd .u1) (CT.block (CT.seq ?_)))
 rcases hb3 with @⟨ps, rest, xs, hps, hal, hxl, hx, hle, haf⟩ | @⟨ps, rest, n, m, hps, hal, hn1, hm1, hnm, he⟩ | ⟨ht⟩ | @⟨own, nl, nd, hb0, bits, o, hoh, hhr, he, hgo⟩ | ⟨he⟩
 ·
  refine CT.sub (ρ' := [(7, (.int .i64 0)), (3, (i64 (Bool.toNat fin))), (2, (.bool false)), (0, (pt p 0))]) (.eq m0 rfl (.sl 1 3 rfl)) (CT.region (TL.val (show Run _ _ _ _ _ _ (.bool true) from n_eql 0 0 T0 .c rfl rfl) (TL.a m0 (TL.b (.hd .u1) (CT.ift m0 ?_)))))
  refine CT.sub .u1 (CT.region (TL.m m3 ?_))
  simp only [List.length_append] at hle
  refine TL.call (r_call ce_73 (.cons T0 .nil)) (fun w hS => t73 ps xs (by omega) hps (by omega) hxl hx (by omega) hd3 hS) ?_
  rintro _ w13 ⟨rfl, hS⟩
  refine TW.at hS ?_
  have hl3 := congrArg List.length hd3
  simp only [List.length_drop, List.length_append, nbits_length, bits8_length] at hl3
  have hdr : B.drop (at_ + 1 + 2 + ps.length + 32 + 8 * xs.length) = rest := stored_drop hd3
  exact TL.x .u2 (EX.bnormal (EX.q (TL.m m1 (TL.val (n_eql ((Bool.toNat fin)) 1 T0 .c) (TL.rm .h4 (TL.a m0 (TL.b (.hd (.tl (.tl (.hd .u1)))) (CT.ret (EX.perm p1 (EX.perm p1 (EX.perm p1 (EX.perm p1 (EX.end_ (.inl rfl) (res1 Tryz.results48 m0) (fun _ hS => ⟨by cases fin <;> rfl, at_ + 1 + 2 + ps.length + 32 + 8 * xs.length, out ++ xs, by omega, by omega, .inl ⟨by rw [hdr, show at_ + 1 + 2 + ps.length + 32 + 8 * xs.length = at_ + 3 + ps.length + 32 + 8 * xs.length by omega, ← List.append_assoc]; exact haf, hS⟩⟩))))))))))))))
 ·
  refine CT.sub (ρ' := [(7, (.int .i64 0)), (3, (i64 (Bool.toNat fin))), (2, (.bool false)), (0, (pt p 0))]) (.eq m0 rfl (.sl 1 3 rfl)) (CT.region (TL.val (show Run _ _ _ _ _ _ (.bool true) from n_eql 0 0 T0 .c rfl rfl) (TL.a m0 (TL.b (.hd .u1) (CT.ift m0 ?_)))))
  refine CT.sub .u1 (CT.region (TL.m m3 (TL.call (r_call ce_73 (.cons T0 .nil)) (fun w hS => t73_b ps n m (by omega) hps (by omega) hn1 hm1 hnm hd3 hS) ?_)))
  rintro _ w13 ⟨rfl, hS⟩
  refine TW.at hS ?_
  have hl3 := congrArg List.length hd3
  simp only [List.length_drop, List.length_append, nbits_length] at hl3
  exact TL.x .u2 (EX.bnormal (EX.q (TL.m m1 (TL.val (n_eql ((Bool.toNat fin)) 1 T0 .c) (TL.rm .h4 (TL.a m0 (TL.b (.hd (.tl (.tl (.hd .u1)))) (CT.ret (EX.perm p1 (EX.perm p1 (EX.perm p1 (EX.perm p1 (EX.end_ (.inl rfl) (res1 Tryz.results48 m0) (fun _ hS => ⟨by cases fin <;> rfl, at_ + 1 + 2 + ps.length + 16 + 16, out, by omega, by omega, .inr ⟨he, hS⟩⟩))))))))))))))
 ·
  refine CT.sub (ρ' := [(7, (.int .i64 1)), (3, (i64 (Bool.toNat fin))), (2, (.bool false)), (0, (pt p 0))]) (.eq m0 rfl (.sl 1 3 rfl)) (CT.region (TL.val (show Run _ _ _ _ _ _ (.bool false) from n_eql 1 0 T0 .c rfl rfl) (TL.a m0 (TL.b (.hd .u1) (CT.iff_ m0 ?_)))))
  refine CT.y (TL.val (show Run _ _ _ _ _ _ (.bool true) from n_eql 1 1 T0 .c rfl rfl) (TL.a m0 (TL.b (.hd .u1) (CT.ift m0 ?_))))
  refine CT.sub .u1 (CT.region (TL.m m3 (TL.call (r_call ce_75 .nil) (fun w hS => t75' hS) ?_)))
  rintro _ w17 ⟨v1, v2, rfl, hS⟩
  refine TW.at hS (TL.val (r_ext T0) (TL.val (r_ext T1) (TL.peek m0 (by rw [fixLit_length]; omega) ?_)))
  intro fa fa_c fa_v fa_k fa_l
  refine TL.peek m1 (by rw [fixDist_length]; omega) ?_
  intro fb fb_c fb_v fb_k fb_l
  refine TL.sub (ρ' := [(19, v2), (18, (.slice (some ⟨fa, 0, none⟩) fixLit.length fa_c)), (17, (.tuple #[v1, v2])), (16, (pt p 0)), (7, (.int .i64 1)), (3, (i64 (Bool.toNat fin))), (2, (.bool false)), (0, (pt p 0))]) (.cons m0 (.eq m1 fa_v (.sl 2 6 rfl))) (TL.sub (ρ' := [(19, (.slice (some ⟨fb, 0, none⟩) fixDist.length fb_c)), (18, (.slice (some ⟨fa, 0, none⟩) fixLit.length fa_c)), (17, (.tuple #[v1, v2])), (16, (pt p 0)), (7, (.int .i64 1)), (3, (i64 (Bool.toNat fin))), (2, (.bool false)), (0, (pt p 0))]) (.eq m0 fb_v (.sl 1 7 rfl)) (TL.perm p1 (TL.perm p1 (TL.conv (fun _ h => Sat.resep (Ls := [_, _]) h) (TL.perm p2 (TL.perm p2 (TL.call (r_call ce_74 (.cons T3 (.cons T1 (.cons T0 .nil)))) (fun w hS => t74 hDR hdd (sep [(slc 1 v1 fixLit.length (fixLit.map i64)), (slc 1 v2 fixDist.length (fixDist.map i64))]) (fun hm hS j x hj => sep_slc hm hS (.head _) fa_v hj) (fun hm hS j x hj => sep_slc hm hS (.tail _ (.head _)) fb_v hj) (by rw [fixLit_length]; decide) (by rw [fixDist_length]; decide) fixLit_15 fixDist_15 fix_fits.1 (.inl fix_fits.2) (fix_lit (by decide)) (by rw [hd3]; exact ht) (by omega) hBl hol hS) ?_)))))))
  rintro _ w20 ⟨rfl, a', o', ha1, ha2, ⟨haf, hS⟩ | ⟨he, hS⟩⟩
  ·
   refine TW.at hS (TL.x .u5 (EX.bnormal (EX.q (TL.m m1 (TL.val (n_eql ((Bool.toNat fin)) 1 T0 .c) (TL.rm .h4 (TL.a m0 (TL.b (.hd (.tl (.tl (.hd .u1)))) (CT.ret (EX.perm p1 (EX.perm p1 (EX.perm p2 (EX.conv (fun _ h => h.tail) ?_)))))))))))))
   exact EX.perm p1 (EX.perm p1 (EX.end_ (.inl rfl) (res1 Tryz.results48 m0) (fun _ hS => ⟨by cases fin <;> rfl, a', o', by omega, ha2, .inl ⟨haf, hS⟩⟩)))
  refine TW.at hS (TL.x .u5 (EX.bnormal (EX.q (TL.m m1 (TL.val (n_eql ((Bool.toNat fin)) 1 T0 .c) (TL.rm .h4 (TL.a m0 (TL.b (.hd (.tl (.tl (.hd .u1)))) (CT.ret (EX.perm p1 (EX.perm p1 (EX.perm p2 (EX.conv (fun _ h => h.tail) ?_)))))))))))))
  exact EX.perm p1 (EX.perm p1 (EX.end_ (.inl rfl) (res1 Tryz.results48 m0) (fun _ hS => ⟨by cases fin <;> rfl, a', o', by omega, ha2, .inr ⟨he, hS⟩⟩)))
 ·
  refine CT.sub (ρ' := [(7, (.int .i64 2)), (3, (i64 (Bool.toNat fin))), (2, (.bool false)), (0, (pt p 0))]) (.eq m0 rfl (.sl 1 3 rfl)) (CT.region (TL.val (show Run _ _ _ _ _ _ (.bool false) from n_eql 2 0 T0 .c rfl rfl) (TL.a m0 (TL.b (.hd .u1) (CT.iff_ m0 ?_)))))
  refine CT.y (TL.val (show Run _ _ _ _ _ _ (.bool false) from n_eql 2 1 T0 .c rfl rfl) (TL.a m0 (TL.b (.hd .u1) (CT.iff_ m0 ?_))))
  refine CT.y (TL.val (show Run _ _ _ _ _ _ (.bool true) from n_eql 2 2 T0 .c rfl rfl) (TL.a m0 (TL.b (.hd .u1) (CT.ift m0 ?_))))
  refine CT.sub .u1 (CT.region (TL.m m3 (TL.perm p1 (TL.perm p1 (TL.call (r_call ce_76 (.cons T0 .nil)) (fun w hS => t76 hDR hdd hoh hhr he hgo hd3 hBl hol hS) ?_)))))
  rintro _ w24 ⟨rfl, a', o', ha1, ha2, ⟨haf, hS⟩ | ⟨he, hS⟩⟩
  ·
   exact TW.at hS (TL.x .u2 (EX.bnormal (EX.q (TL.m m1 (TL.val (n_eql ((Bool.toNat fin)) 1 T0 .c) (TL.rm .h4 (TL.a m0 (TL.b (.hd (.tl (.tl (.hd .u1)))) (CT.ret (EX.perm p1 (EX.perm p1 (EX.perm p1 (EX.perm p1 (EX.end_ (.inl rfl) (res1 Tryz.results48 m0) (fun _ hS => ⟨by cases fin <;> rfl, a', o', by omega, ha2, .inl ⟨haf, hS⟩⟩)))))))))))))))
  exact TW.at hS (TL.x .u2 (EX.bnormal (EX.q (TL.m m1 (TL.val (n_eql ((Bool.toNat fin)) 1 T0 .c) (TL.rm .h4 (TL.a m0 (TL.b (.hd (.tl (.tl (.hd .u1)))) (CT.ret (EX.perm p1 (EX.perm p1 (EX.perm p1 (EX.perm p1 (EX.end_ (.inl rfl) (res1 Tryz.results48 m0) (fun _ hS => ⟨by cases fin <;> rfl, a', o', by omega, ha2, .inr ⟨he, hS⟩⟩)))))))))))))))
 refine CT.sub (ρ' := [(7, (.int .i64 3)), (3, (i64 (Bool.toNat fin))), (2, (.bool false)), (0, (pt p 0))]) (.eq m0 rfl (.sl 1 3 rfl)) (CT.region (TL.val (show Run _ _ _ _ _ _ (.bool false) from n_eql 3 0 T0 .c rfl rfl) (TL.a m0 (TL.b (.hd .u1) (CT.iff_ m0 ?_)))))
 refine CT.y (TL.val (show Run _ _ _ _ _ _ (.bool false) from n_eql 3 1 T0 .c rfl rfl) (TL.a m0 (TL.b (.hd .u1) (CT.iff_ m0 ?_))))
 refine CT.y (TL.val (show Run _ _ _ _ _ _ (.bool false) from n_eql 3 2 T0 .c rfl rfl) (TL.a m0 (TL.b (.hd .u1) (CT.iff_ m0 ?_))))
 refine CT.sub .u1 (CT.region (TL.m m3 (TL.call (r_call ce_49 (.cons T0 (.cons .c .nil))) (fun w hS => t49_1 hS) ?_)))
 rintro _ w9 ⟨rfl, hS⟩
 exact TW.at hS (TL.x .u2 (EX.bnormal (EX.q (TL.m m1 (TL.val (n_eql ((Bool.toNat fin)) 1 T0 .c) (TL.rm .h4 (TL.a m0 (TL.b (.hd (.tl (.tl (.hd .u1)))) (CT.ret (EX.perm p1 (EX.perm p1 (EX.perm p1 (EX.perm p1 (EX.end_ (.inl rfl) (res1 Tryz.results48 m0) (fun _ hS => ⟨by cases fin <;> rfl, at_ + 1 + 2, out, by omega, by omega, .inr ⟨he, hS⟩⟩)))))))))))))))
theorem t21_d {sv dv : Value} {B st0 tail0 : List Bool} {outF D : List Nat} {gd : Bool} (hBl : B.length < 1099511627776) (hDl : D.length < 1099511627776) (hB : B = st0 ++ tail0) (hst : Strm 0 st0 (D.drop (D.length - 32768)) (D.drop (D.length - 32768) ++ outF, gd)) (ho : outF.length ≤ 131072) {G : World} {R : List HProp} {w : World} (hS : Sat G w (slc 1 sv ((pack B).length) ((pack B).map u8) :: slc 1 dv (D.length) (D.map u8) :: R)) :
 CallsR Tryz.prog 21 #[sv, dv] w (fun v w' => ∃ (v1 : Value) (c u : Nat), v = .tuple #[v1, i64 c, i64 u] ∧ (gd = true ∧ c = 1 ∨ gd = false ∧ c = 2) ∧ Sat G w' (slc 1 v1 outF.length (outF.map u8) :: slc 1 sv (pack B).length ((pack B).map u8) :: slc 1 dv D.length (D.map u8) :: R)) := by
 refine calls_in (n := 37) [(0, sv), (1, dv)] Tryz.func21 rfl rfl hS args2 ?_
 refine CT.q (TL.val (r_asg .c) (TL.val (r_asg .c) (TL.val (r_asg .c) (TL.e (CT.seq (CT.expose (fun w hS => hS.slc_shape m1) ?_))))))
 rintro ⟨-, ⟨hd1, hd2⟩ | ⟨db, dbc, hd1, hd2⟩⟩
 ·
  have hD0 : D = [] := List.length_eq_zero_iff.1 hd2
  refine CT.sub (ρ' := [(6, (.int .i64 0)), (5, (.int .i64 0)), (4, (.slice none 0 0)), (0, sv), (1, (.slice none 0 0))]) (.cons m0 (.cons m1 (.cons m2 (.cons m3 (.eq m4 hd1 .nil))))) (CT.expose (fun w hS => hS.slc_shape m0) ?_)
  rintro ⟨-, hsv0⟩
  obtain ⟨sp, sl, sc, hsv⟩ : ∃ p l c, sv = .slice p l c := by rcases hsv0 with ⟨h, _⟩ | ⟨b, c, h, _⟩ <;> exact ⟨_, _, _, h⟩
  refine CT.region (TL.m m3 (TL.m m5 (TL.m m6 (TL.val (r_len Tryz.underlying22 T0) (TL.val (r_sub (z := (((D.length : Int) - 32768))) T0 .c (wi (by omega))) (TL.val (r_max .c T0) (TL.sub (.eq m0 (congrArg (Value.int .i64) (by omega)) (.cons m1 (.cons m2 (.cons m3 (.cons m4 (.cons m5 (.cons m6 (.cons m7 (.cons m8 (.cons m9 (.cons m10 .nil))))))))))) (TL.sub (.eq m0 (congrArg (fun z : Nat => Value.int .i64 (z : Int)) (show D.length - 32768 = 0 by omega)) (.cons m1 (.cons m2 (.cons m3 (.cons m4 (.cons m5 (.cons m6 (.cons m7 (.cons m8 (.cons m9 (.cons m10 .nil))))))))))) (TL.val (r_slicen Tryz.underlying22 Tryz.sizeOf5 T4 (.so (j := 0) T0 rfl) .no (by first | rfl | simp) (by first | rfl | simp)) (TL.val (r_build (v := (.agg #[sv, (.int .i64 0), (.slice none 0 0), (.slice none 0 0), (.int .i64 ((-1)))])) (.cons T6 (.cons T0 (.cons .c .nil))) (fun _ => by rw [hsv]; kernel_rfl)) (TL.w (r_box (F := lst [sv, (.int .i64 0), (.slice none 0 0), (.slice none 0 0), (.int .i64 ((-1)))]) T0 rfl rfl lst_ok) ?_)))))))))))
  rintro _ w16 ⟨b16, rfl, hS⟩
  refine TW.at hS (TL.a m0 (TL.b (.hd (.tl (.tl (.tl (.tl (.tl (.tl (.tl (.tl (.tl (.hd (.hd (.hd .u2))))))))))))) (CT.seq (CT.block (CT.conv (fun _ h => h.emp (A := (hpure True)) trivial) ?_)))))
  refine CT.nilslc 1 ?_
  refine CT.perm p3 (CT.perm p3 (CT.conv (fun _ h => Sat.unsp (out := ([] : List Nat)) (at_ := 0) (e := -1) h) ?_))
  refine CT.loop (X := Int × Nat × List Nat) (fun gx => [(7, (pt b16 0)), (6, (.int .i64 0)), (5, (.int .i64 0)), (4, (.slice none 0 0))]) (fun gx => (Sp b16 sv (B) gx.2.1 (.slice none 0 0) gx.2.2 gx.1) :: (hpure True) :: slc 1 dv (D.length) (D.map u8) :: R) (fun gx => (gx.1 = -1 ∧ (∃ st tail, B.drop gx.2.1 = st ++ tail ∧ Strm gx.2.1 st (([] : List Nat) ++ gx.2.2) (([] : List Nat) ++ outF, gd)) ∨ gx.1 = 1 ∧ ([] : List Nat) ++ gx.2.2 = ([] : List Nat) ++ outF ∧ gd = true ∨ gx.1 = 2 ∧ (([] : List Nat) ++ outF, gd) = (([] : List Nat) ++ gx.2.2, false)) ∧ gx.2.1 ≤ B.length) (fun gx => (if gx.1 < 0 then 1 + (B.length - gx.2.1) else 0)) (((-1), 0, ([] : List Nat))) (⟨.inl ⟨rfl, st0, tail0, by rw [List.drop_zero]; exact hB, by rw [List.append_nil]; exact by have h := hst; rw [hD0] at h; exact h⟩, Nat.zero_le _⟩) (.refl _) (.sl 0 4 rfl) ?_
  rintro ⟨e, at_, o1⟩ ⟨hJ, hJ3⟩
  show CT _ _ _ [(7, (pt b16 0)), (6, (.int .i64 0)), (5, (.int .i64 0)), (4, (.slice none 0 0))] _ _ ((Sp b16 sv (B) at_ (.slice none 0 0) o1 e) :: (hpure True) :: slc 1 dv (D.length) (D.map u8) :: R)
  replace hJ3 : at_ ≤ B.length := hJ3
  refine CT.seq (CT.seq ?_)
  rcases hJ with ⟨rfl, st, tail, hb1, hb2⟩ | ⟨rfl, hb1, hb2⟩ | ⟨rfl, hb1⟩
  ·
   replace hb1 : B.drop at_ = st ++ tail := hb1
   replace hb2 : Strm at_ st (([] : List Nat) ++ o1) (([] : List Nat) ++ outF, gd) := hb2
   obtain ⟨fin, typ, rest3, hh1, hh2, hh3⟩ := hb2.blk3 tail
   have hle := hb2.len
   have hlb := congrArg List.length (hb1.trans hh1)
   simp only [List.length_drop, List.length_append, nbits_length] at hlb
   refine CT.region (TL.m m0 (TL.call (r_call ce_47 (.cons T0 .nil)) (fun w hS => t47 (r := true) (by decide) hS) ?_))
   rintro _ w18 ⟨rfl, hS⟩
   refine TW.at hS (TL.b (.hd .u1) (CT.ift m0 ?_))
   refine CT.z (EX.seq (CT.block (CT.q (TL.m m0 (TL.perm p1 (TL.perm p1 (TL.call (r_call ce_48 (.cons T0 .nil)) (fun w hS => t48 (DA := hpure True) (dd := ([] : List Nat)) (dp := none) (dc := 0) (.inl ⟨rfl, rfl⟩) (by decide) (hb1.trans hh1) hh2 hh3 hBl (by show (([] : List Nat) ++ outF).length ≤ (([] : List Nat)).length + 131072; rw [List.length_append]; omega) hS) ?_)))))))
   rintro _ w20 ⟨rfl, a', o', ha1, ha2, ⟨haf, hS⟩ | ⟨he, hS⟩⟩
   ·
    refine TW.at hS (TL.b (.hd .u1) (CT.iff m0 (fun c20 => ?_) (fun c20 => ?_)))
    ·
     refine CT.sub .u1 (CT.region (TL.m m0 (TL.call (r_call ce_49 (.cons T0 (.cons .c .nil))) (fun w hS => t49_1 hS) ?_)))
     rintro _ w22 ⟨rfl, hS⟩
     exact TW.at hS (TL.x .u2 (EX.bnormal (EX.again ((1, a', o')) (⟨.inr (.inl ⟨rfl, (haf.1 c20)⟩), ha2⟩) (by show (if (1 : Int) < 0 then 1 + (B.length - a') else 0) < (if (-1 : Int) < 0 then 1 + (B.length - at_) else 0); rw [if_neg (by decide), if_pos (by decide)]; omega) (.refl _) (.sl 0 4 rfl))))
    exact CT.z (EX.bnormal (EX.again (((-1), a', o')) (⟨.inl ⟨rfl, by obtain ⟨st, tail, h1, h2⟩ := haf.2 (by simpa using c20); exact ⟨st, tail, h1, h2⟩⟩, ha2⟩) (by show (if (-1 : Int) < 0 then 1 + (B.length - a') else 0) < (if (-1 : Int) < 0 then 1 + (B.length - at_) else 0); rw [if_pos (by decide), if_pos (by decide)]; omega) (.refl _) (.sl 0 4 rfl)))
   refine TW.at hS (TL.b (.hd .u1) (CT.iff m0 (fun c20 => ?_) (fun c20 => ?_)))
   ·
    refine CT.sub .u1 (CT.region (TL.m m0 (TL.call (r_call ce_49 (.cons T0 (.cons .c .nil))) (fun w hS => t49_2 (by decide) hS) ?_)))
    rintro _ w22 ⟨rfl, hS⟩
    exact TW.at hS (TL.x .u2 (EX.bnormal (EX.again ((2, a', o')) (⟨.inr (.inr ⟨rfl, he⟩), ha2⟩) (by show (if (2 : Int) < 0 then 1 + (B.length - a') else 0) < (if (-1 : Int) < 0 then 1 + (B.length - at_) else 0); rw [if_neg (by decide), if_pos (by decide)]; omega) (.refl _) (.sl 0 4 rfl))))
   exact CT.z (EX.bnormal (EX.again ((2, a', o')) (⟨.inr (.inr ⟨rfl, he⟩), ha2⟩) (by show (if (2 : Int) < 0 then 1 + (B.length - a') else 0) < (if (-1 : Int) < 0 then 1 + (B.length - at_) else 0); rw [if_neg (by decide), if_pos (by decide)]; omega) (.refl _) (.sl 0 4 rfl)))
  ·
   refine CT.region (TL.m m0 (TL.call (r_call ce_47 (.cons T0 .nil)) (fun w hS => t47 (r := false) (by decide) hS) ?_))
   rintro _ w18 ⟨rfl, hS⟩
   refine TW.at hS (TL.b (.hd .u1) (CT.iff_ m0 ?_))
   refine CT.sub .u1 (CT.exit (EX.then_exit (EX.then_exit (EX.out (EX.seq (CT.seq ?_))))))
   have hoF : o1 = outF := List.append_cancel_left hb1
   refine CT.sp ?_
   intro ov1
   refine CT.still fm (by kernel_rfl) ?_
   refine TS.m m0 (TS.c m0 (TS.f 3 fo_56_3 m0 (TS.val (r_ld (v := ov1) Tryz.isAgg22 m0 T0 (by decide) rfl) (TS.m m4 (TS.c m0 (TS.f 4 fo_56_4 m0 (TS.val (r_ld (v := (.int .i64 1)) Tryz.isAgg3 m0 T0 (by decide) rfl) (TS.m m8 (TS.c m0 (TS.f 1 fo_56_1 m0 (TS.val (r_ld (v := (i64 at_)) Tryz.isAgg3 m0 T0 (by decide) rfl) (TS.val (n_add at_ 7 9223372036854775808 T0 .c) (TS.val (n_quo ((at_ + 7)) 8 9223372036854775808 T0 .c rfl rfl (by omega) (by omega)) (TS.rm .h17 (TS.val (r_asg T10) (TS.rm .h17 (TS.val (r_asg T7) (TS.rm .h17 (TS.val (r_asg T2) (TS.nil (TL.b (.hd (.hd (.hd .u14))) (CT.ret (EX.fold (A' := (slc 1 ov1 outF.length (outF.map u8))) a2 (slc_eq (by rw [hoF]) (by rw [hoF])) (EX.perm p4 (EX.perm p2 (EX.perm p3 (EX.perm p3 (EX.conv (fun _ h => h.tail) ?_))))))))))))))))))))))))))))
   refine EX.perm p3 (EX.conv (fun _ h => h.tail) ?_)
   exact EX.perm p2 (EX.perm p2 (EX.perm p2 (EX.end_ (.inl rfl) (res3 Tryz.results21 m2 m1 m0) (fun _ hS => ⟨ov1, 1, _, rfl, .inl ⟨hb2, rfl⟩, hS⟩))))
  refine CT.region (TL.m m0 (TL.call (r_call ce_47 (.cons T0 .nil)) (fun w hS => t47 (r := false) (by decide) hS) ?_))
  rintro _ w18 ⟨rfl, hS⟩
  refine TW.at hS (TL.b (.hd .u1) (CT.iff_ m0 ?_))
  refine CT.sub .u1 (CT.exit (EX.then_exit (EX.then_exit (EX.out (EX.seq (CT.seq ?_))))))
  have hoF : outF = o1 := List.append_cancel_left (Prod.mk.inj hb1).1
  replace hoF := hoF.symm
  refine CT.sp ?_
  intro ov2
  refine CT.still fm (by kernel_rfl) ?_
  refine TS.m m0 (TS.c m0 (TS.f 3 fo_56_3 m0 (TS.val (r_ld (v := ov2) Tryz.isAgg22 m0 T0 (by decide) rfl) (TS.m m4 (TS.c m0 (TS.f 4 fo_56_4 m0 (TS.val (r_ld (v := (.int .i64 2)) Tryz.isAgg3 m0 T0 (by decide) rfl) (TS.m m8 (TS.c m0 (TS.f 1 fo_56_1 m0 (TS.val (r_ld (v := (i64 at_)) Tryz.isAgg3 m0 T0 (by decide) rfl) (TS.val (n_add at_ 7 9223372036854775808 T0 .c) (TS.val (n_quo ((at_ + 7)) 8 9223372036854775808 T0 .c rfl rfl (by omega) (by omega)) (TS.rm .h17 (TS.val (r_asg T10) (TS.rm .h17 (TS.val (r_asg T7) (TS.rm .h17 (TS.val (r_asg T2) (TS.nil (TL.b (.hd (.hd (.hd .u14))) (CT.ret (EX.fold (A' := (slc 1 ov2 outF.length (outF.map u8))) a2 (slc_eq (by rw [hoF]) (by rw [hoF])) (EX.perm p4 (EX.perm p2 (EX.perm p3 (EX.perm p3 (EX.conv (fun _ h => h.tail) ?_))))))))))))))))))))))))))))
  refine EX.perm p3 (EX.conv (fun _ h => h.tail) ?_)
  exact EX.perm p2 (EX.perm p2 (EX.perm p2 (EX.end_ (.inl rfl) (res3 Tryz.results21 m2 m1 m0) (fun _ hS => ⟨ov2, 2, _, rfl, .inr ⟨(Prod.mk.inj hb1).2, rfl⟩, hS⟩))))
 refine CT.sub (ρ' := [(6, (.int .i64 0)), (5, (.int .i64 0)), (4, (.slice none 0 0)), (0, sv), (1, (.slice (some ⟨db, 0, none⟩) (D.length) dbc))]) (.cons m0 (.cons m1 (.cons m2 (.cons m3 (.eq m4 hd1 .nil))))) (CT.expose (fun w hS => hS.slc_shape m0) ?_)
 rintro ⟨-, hsv0⟩
 obtain ⟨sp, sl, sc, hsv⟩ : ∃ p l c, sv = .slice p l c := by rcases hsv0 with ⟨h, _⟩ | ⟨b, c, h, _⟩ <;> exact ⟨_, _, _, h⟩
 refine CT.region (TL.m m3 (TL.m m5 (TL.m m6 (TL.val (r_len Tryz.underlying22 T0) (TL.val (r_sub (z := (((D.length : Int) - 32768))) T0 .c (wi (by omega))) (TL.val (r_max .c T0) (TL.sub (.eq m0 (congrArg (Value.int .i64) (by omega)) (.cons m1 (.cons m2 (.cons m3 (.cons m4 (.cons m5 (.cons m6 (.cons m7 (.cons m8 (.cons m9 (.cons m10 .nil))))))))))) (TL.val (r_slice (off' := (if dbc = D.length - 32768 then 0 else (D.length - 32768))) (m := D.length - (D.length - 32768)) (c' := dbc - (D.length - 32768)) Tryz.underlying22 Tryz.sizeOf5 T4 (.so (j := (D.length - 32768)) T0 rfl) .no (by (try simp) <;> omega) (by (try simp) <;> omega) (by show (if dbc = D.length - 32768 then 0 else 0 + (D.length - 32768) * 1) = _; rw [Nat.mul_one, Nat.zero_add]) (by simp) (by simp)) (TL.sub (ρ' := [(14, (.slice (some ⟨db, (if dbc = D.length - 32768 then 0 else (D.length - 32768)), none⟩) ((D.drop (D.length - 32768)).length) (dbc - (D.length - 32768)))), (13, (i64 (D.length - 32768))), (12, (.int .i64 (((D.length : Int) - 32768)))), (11, (i64 D.length)), (10, (.slice (some ⟨db, 0, none⟩) (D.length) dbc)), (9, (.slice (some ⟨db, 0, none⟩) (D.length) dbc)), (8, sv), (6, (.int .i64 0)), (5, (.int .i64 0)), (4, (.slice none 0 0)), (0, sv), (1, (.slice (some ⟨db, 0, none⟩) (D.length) dbc))]) (.eq m0 (by rw [List.length_drop]) (.sl 1 11 rfl)) (TL.val (r_build (v := (.agg #[sv, (.int .i64 0), (.slice (some ⟨db, (if dbc = D.length - 32768 then 0 else (D.length - 32768)), none⟩) ((D.drop (D.length - 32768)).length) (dbc - (D.length - 32768))), (.slice none 0 0), (.int .i64 ((-1)))])) (.cons T6 (.cons T0 (.cons .c .nil))) (fun _ => by rw [hsv]; kernel_rfl)) (TL.w (r_box (F := lst [sv, (.int .i64 0), (.slice (some ⟨db, (if dbc = D.length - 32768 then 0 else (D.length - 32768)), none⟩) ((D.drop (D.length - 32768)).length) (dbc - (D.length - 32768))), (.slice none 0 0), (.int .i64 ((-1)))]) T0 rfl rfl lst_ok) ?_)))))))))))
 rintro _ w16 ⟨b16, rfl, hS⟩
 refine TW.at hS (TL.a m0 (TL.b (.hd (.tl (.tl (.tl (.tl (.tl (.tl (.tl (.tl (.tl (.hd (.hd (.hd .u2))))))))))))) (CT.seq (CT.block (CT.nilslc 1 ?_)))))
 refine CT.perm p2 (CT.perm p2 (CT.conv (fun _ h => Sat.unsp (out := ([] : List Nat)) (at_ := 0) (e := -1) h) ?_))
 refine CT.loop (X := Int × Nat × List Nat) (fun gx => [(7, (pt b16 0)), (6, (.int .i64 0)), (5, (.int .i64 0)), (4, (.slice none 0 0))]) (fun gx => (Sp b16 sv (B) gx.2.1 (.slice (some ⟨db, (if dbc = D.length - 32768 then 0 else (D.length - 32768)), none⟩) ((D.drop (D.length - 32768)).length) (dbc - (D.length - 32768))) gx.2.2 gx.1) :: slc 1 dv (D.length) (D.map u8) :: R) (fun gx => (gx.1 = -1 ∧ (∃ st tail, B.drop gx.2.1 = st ++ tail ∧ Strm gx.2.1 st ((D.drop (D.length - 32768)) ++ gx.2.2) ((D.drop (D.length - 32768)) ++ outF, gd)) ∨ gx.1 = 1 ∧ (D.drop (D.length - 32768)) ++ gx.2.2 = (D.drop (D.length - 32768)) ++ outF ∧ gd = true ∨ gx.1 = 2 ∧ ((D.drop (D.length - 32768)) ++ outF, gd) = ((D.drop (D.length - 32768)) ++ gx.2.2, false)) ∧ gx.2.1 ≤ B.length) (fun gx => (if gx.1 < 0 then 1 + (B.length - gx.2.1) else 0)) (((-1), 0, ([] : List Nat))) (⟨.inl ⟨rfl, st0, tail0, by rw [List.drop_zero]; exact hB, by rw [List.append_nil]; exact hst⟩, Nat.zero_le _⟩) (.refl _) (.sl 0 4 rfl) ?_
 rintro ⟨e, at_, o1⟩ ⟨hJ, hJ3⟩
 show CT _ _ _ [(7, (pt b16 0)), (6, (.int .i64 0)), (5, (.int .i64 0)), (4, (.slice none 0 0))] _ _ ((Sp b16 sv (B) at_ (.slice (some ⟨db, (if dbc = D.length - 32768 then 0 else (D.length - 32768)), none⟩) ((D.drop (D.length - 32768)).length) (dbc - (D.length - 32768))) o1 e) :: slc 1 dv (D.length) (D.map u8) :: R)
 replace hJ3 : at_ ≤ B.length := hJ3
 refine CT.seq (CT.seq ?_)
 rcases hJ with ⟨rfl, st, tail, hb1, hb2⟩ | ⟨rfl, hb1, hb2⟩ | ⟨rfl, hb1⟩
 ·
  replace hb1 : B.drop at_ = st ++ tail := hb1
  replace hb2 : Strm at_ st ((D.drop (D.length - 32768)) ++ o1) ((D.drop (D.length - 32768)) ++ outF, gd) := hb2
  obtain ⟨fin, typ, rest3, hh1, hh2, hh3⟩ := hb2.blk3 tail
  have hle := hb2.len
  have hlb := congrArg List.length (hb1.trans hh1)
  simp only [List.length_drop, List.length_append, nbits_length] at hlb
  refine CT.region (TL.m m0 (TL.call (r_call ce_47 (.cons T0 .nil)) (fun w hS => t47 (r := true) (by decide) hS) ?_))
  rintro _ w18 ⟨rfl, hS⟩
  refine TW.at hS (TL.b (.hd .u1) (CT.ift m0 ?_))
  refine CT.z (EX.seq (CT.block (CT.q (TL.m m0 (TL.perm p1 (TL.perm p1 (TL.call (r_call ce_48 (.cons T0 .nil)) (fun w hS => t48 (DA := (slc 1 dv (D.length) (D.map u8))) (dd := D.drop (D.length - 32768)) (dict_DRd hd1 hd2) (by rw [List.length_drop]; omega) (hb1.trans hh1) hh2 hh3 hBl (by show ((D.drop (D.length - 32768)) ++ outF).length ≤ ((D.drop (D.length - 32768))).length + 131072; rw [List.length_append]; omega) hS) ?_)))))))
  rintro _ w20 ⟨rfl, a', o', ha1, ha2, ⟨haf, hS⟩ | ⟨he, hS⟩⟩
  ·
   refine TW.at hS (TL.b (.hd .u1) (CT.iff m0 (fun c20 => ?_) (fun c20 => ?_)))
   ·
    refine CT.sub .u1 (CT.region (TL.m m0 (TL.call (r_call ce_49 (.cons T0 (.cons .c .nil))) (fun w hS => t49_1 hS) ?_)))
    rintro _ w22 ⟨rfl, hS⟩
    exact TW.at hS (TL.x .u2 (EX.bnormal (EX.again ((1, a', o')) (⟨.inr (.inl ⟨rfl, (haf.1 c20)⟩), ha2⟩) (by show (if (1 : Int) < 0 then 1 + (B.length - a') else 0) < (if (-1 : Int) < 0 then 1 + (B.length - at_) else 0); rw [if_neg (by decide), if_pos (by decide)]; omega) (.refl _) (.sl 0 4 rfl))))
   exact CT.z (EX.bnormal (EX.again (((-1), a', o')) (⟨.inl ⟨rfl, by obtain ⟨st, tail, h1, h2⟩ := haf.2 (by simpa using c20); exact ⟨st, tail, h1, h2⟩⟩, ha2⟩) (by show (if (-1 : Int) < 0 then 1 + (B.length - a') else 0) < (if (-1 : Int) < 0 then 1 + (B.length - at_) else 0); rw [if_pos (by decide), if_pos (by decide)]; omega) (.refl _) (.sl 0 4 rfl)))
  refine TW.at hS (TL.b (.hd .u1) (CT.iff m0 (fun c20 => ?_) (fun c20 => ?_)))
  ·
   refine CT.sub .u1 (CT.region (TL.m m0 (TL.call (r_call ce_49 (.cons T0 (.cons .c .nil))) (fun w hS => t49_2 (by decide) hS) ?_)))
   rintro _ w22 ⟨rfl, hS⟩
   exact TW.at hS (TL.x .u2 (EX.bnormal (EX.again ((2, a', o')) (⟨.inr (.inr ⟨rfl, he⟩), ha2⟩) (by show (if (2 : Int) < 0 then 1 + (B.length - a') else 0) < (if (-1 : Int) < 0 then 1 + (B.length - at_) else 0); rw [if_neg (by decide), if_pos (by decide)]; omega) (.refl _) (.sl 0 4 rfl))))
  exact CT.z (EX.bnormal (EX.again ((2, a', o')) (⟨.inr (.inr ⟨rfl, he⟩), ha2⟩) (by show (if (2 : Int) < 0 then 1 + (B.length - a') else 0) < (if (-1 : Int) < 0 then 1 + (B.length - at_) else 0); rw [if_neg (by decide), if_pos (by decide)]; omega) (.refl _) (.sl 0 4 rfl)))
 ·
  refine CT.region (TL.m m0 (TL.call (r_call ce_47 (.cons T0 .nil)) (fun w hS => t47 (r := false) (by decide) hS) ?_))
  rintro _ w18 ⟨rfl, hS⟩
  refine TW.at hS (TL.b (.hd .u1) (CT.iff_ m0 ?_))
  refine CT.sub .u1 (CT.exit (EX.then_exit (EX.then_exit (EX.out (EX.seq (CT.seq ?_))))))
  have hoF : o1 = outF := List.append_cancel_left hb1
  refine CT.sp ?_
  intro ov3
  refine CT.still fm (by kernel_rfl) ?_
  refine TS.m m0 (TS.c m0 (TS.f 3 fo_56_3 m0 (TS.val (r_ld (v := ov3) Tryz.isAgg22 m0 T0 (by decide) rfl) (TS.m m4 (TS.c m0 (TS.f 4 fo_56_4 m0 (TS.val (r_ld (v := (.int .i64 1)) Tryz.isAgg3 m0 T0 (by decide) rfl) (TS.m m8 (TS.c m0 (TS.f 1 fo_56_1 m0 (TS.val (r_ld (v := (i64 at_)) Tryz.isAgg3 m0 T0 (by decide) rfl) (TS.val (n_add at_ 7 9223372036854775808 T0 .c) (TS.val (n_quo ((at_ + 7)) 8 9223372036854775808 T0 .c rfl rfl (by omega) (by omega)) (TS.rm .h17 (TS.val (r_asg T10) (TS.rm .h17 (TS.val (r_asg T7) (TS.rm .h17 (TS.val (r_asg T2) (TS.nil (TL.b (.hd (.hd (.hd .u14))) (CT.ret (EX.fold (A' := (slc 1 ov3 outF.length (outF.map u8))) a2 (slc_eq (by rw [hoF]) (by rw [hoF])) (EX.perm p3 (EX.perm p2 (EX.perm p3 (EX.perm p3 (EX.conv (fun _ h => h.tail) ?_))))))))))))))))))))))))))))
  exact EX.perm p2 (EX.perm p2 (EX.perm p2 (EX.end_ (.inl rfl) (res3 Tryz.results21 m2 m1 m0) (fun _ hS => ⟨ov3, 1, _, rfl, .inl ⟨hb2, rfl⟩, hS⟩))))
 refine CT.region (TL.m m0 (TL.call (r_call ce_47 (.cons T0 .nil)) (fun w hS => t47 (r := false) (by decide) hS) ?_))
 rintro _ w18 ⟨rfl, hS⟩
 refine TW.at hS (TL.b (.hd .u1) (CT.iff_ m0 ?_))
 refine CT.sub .u1 (CT.exit (EX.then_exit (EX.then_exit (EX.out (EX.seq (CT.seq ?_))))))
 have hoF : outF = o1 := List.append_cancel_left (Prod.mk.inj hb1).1
 replace hoF := hoF.symm
 refine CT.sp ?_
 intro ov4
 refine CT.still fm (by kernel_rfl) ?_
 refine TS.m m0 (TS.c m0 (TS.f 3 fo_56_3 m0 (TS.val (r_ld (v := ov4) Tryz.isAgg22 m0 T0 (by decide) rfl) (TS.m m4 (TS.c m0 (TS.f 4 fo_56_4 m0 (TS.val (r_ld (v := (.int .i64 2)) Tryz.isAgg3 m0 T0 (by decide) rfl) (TS.m m8 (TS.c m0 (TS.f 1 fo_56_1 m0 (TS.val (r_ld (v := (i64 at_)) Tryz.isAgg3 m0 T0 (by decide) rfl) (TS.val (n_add at_ 7 9223372036854775808 T0 .c) (TS.val (n_quo ((at_ + 7)) 8 9223372036854775808 T0 .c rfl rfl (by omega) (by omega)) (TS.rm .h17 (TS.val (r_asg T10) (TS.rm .h17 (TS.val (r_asg T7) (TS.rm .h17 (TS.val (r_asg T2) (TS.nil (TL.b (.hd (.hd (.hd .u14))) (CT.ret (EX.fold (A' := (slc 1 ov4 outF.length (outF.map u8))) a2 (slc_eq (by rw [hoF]) (by rw [hoF])) (EX.perm p3 (EX.perm p2 (EX.perm p3 (EX.perm p3 (EX.conv (fun _ h => h.tail) ?_))))))))))))))))))))))))))))
 exact EX.perm p2 (EX.perm p2 (EX.perm p2 (EX.end_ (.inl rfl) (res3 Tryz.results21 m2 m1 m0) (fun _ hS => ⟨ov4, 2, _, rfl, .inr ⟨(Prod.mk.inj hb1).2, rfl⟩, hS⟩))))
end Go.Eng
namespace Go.Infl
def wt (x : Nat) : Nat := if x = 0 then 0 else 2 ^ (15 - x)
theorem kraft_cons (l : Nat) (ls : List Nat) : kraft (l :: ls) = wt l + kraft ls := rfl
theorem kraft_set : ∀ {d : List Nat} {k x y : Nat}, d[k]? = some x → kraft (d.set k y) + wt x = kraft d + wt y
 | [], k, x, y, h => by simp at h
 | a :: d, 0, x, y, h => by
  obtain rfl : a = x := by simpa using h
  rw [List.set_cons_zero, kraft_cons, kraft_cons]; omega
 | a :: d, k + 1, x, y, h => by
  have := kraft_set (y := y) (d := d) (k := k) (x := x) (by simpa using h)
  rw [List.set_cons_succ, kraft_cons, kraft_cons]; omega
theorem wt_half {x : Nat} (h1 : 1 ≤ x) (h2 : x ≤ 14) : wt x = 2 * wt (x + 1) := by
 unfold wt
 rw [if_neg (by omega), if_neg (by omega), show 15 - x = (15 - (x + 1)) + 1 by omega, Nat.pow_succ]; omega
structure DI (M : Nat) (d : List Nat) : Prop where
 two : 2 ≤ d.length
 pos : ∀ x ∈ d, 1 ≤ x ∧ x ≤ M
 full : kraft d = 32768
theorem DI.start {M : Nat} (h : 1 ≤ M) : DI M [1, 1] := ⟨by decide, fun x hx => by simp at hx; omega, by decide⟩
theorem DI.grow {M k x : Nat} {d : List Nat} (H : DI M d) (hM : M ≤ 15) (hk : d[k]? = some x) (hx : x ≠ M) : DI M (d.set k (x + 1) ++ [x + 1]) := by
 have hp := H.pos x (List.mem_of_getElem? hk)
 refine ⟨by rw [List.length_append, List.length_set]; have := H.two; omega, fun y hy => ?_, ?_⟩
 ·
  rcases List.mem_append.1 hy with h | h
  ·
   rcases List.mem_or_eq_of_mem_set h with h | h
   ·
    exact H.pos y h
   omega
  simp at h; omega
 have h1 := kraft_set (y := x + 1) hk
 have h2 := wt_half hp.1 (by omega)
 rw [kraft_append, kraft_cons]
 have h3 := H.full
 show kraft (d.set k (x + 1)) + (wt (x + 1) + 0) = _
 omega
theorem kraft_all {M : Nat} : ∀ {d : List Nat}, (∀ x ∈ d, x = M) → kraft d = d.length * wt M
 | [], _ => by simp [kraft]
 | a :: d, h => by
  rw [kraft_cons, kraft_all (d := d) (fun x hx => h x (List.mem_cons_of_mem _ hx)), h a (List.mem_cons_self ..), List.length_cons, Nat.succ_mul]; omega
theorem DI.free {M : Nat} {d : List Nat} (H : DI M d) (h1 : 1 ≤ M) (hM : M ≤ 15) (h : d.length < 2 ^ M) : ∃ j, j < d.length ∧ d.getD j 0 ≠ M := by
 refine Classical.byContradiction fun hn => ?_
 have ha : ∀ x ∈ d, x = M := fun x hx => by
  obtain ⟨j, hj, e⟩ := List.getElem_of_mem hx
  refine Classical.byContradiction fun hx => hn ⟨j, hj, ?_⟩
  rw [List.getD_eq_getElem?_getD, List.getElem?_eq_getElem hj, e]; exact hx
 have e := kraft_all ha
 rw [H.full] at e
 have e2 : 2 ^ M * wt M = 32768 := by
  unfold wt
  rw [if_neg (by omega), ← Nat.pow_add, show M + (15 - M) = 15 by omega]
 have hp : 0 < wt M := by unfold wt; rw [if_neg (by omega)]; exact Nat.pos_of_ne_zero (by simp)
 have := Nat.mul_lt_mul_of_pos_right h hp
 omega
theorem DI.swap {M i k a b : Nat} {d : List Nat} (H : DI M d) (hi : d[i]? = some a) (hk : d[k]? = some b) : DI M ((d.set i b).set k a) := by
 have hl := H.two
 refine ⟨by simp; omega, fun y hy => ?_, ?_⟩
 ·
  rcases List.mem_or_eq_of_mem_set hy with h | h
  ·
   rcases List.mem_or_eq_of_mem_set h with h | h
   ·
    exact H.pos y h
   rw [h]; exact H.pos b (List.mem_of_getElem? hk)
  rw [h]; exact H.pos a (List.mem_of_getElem? hi)
 have h1 := kraft_set (y := b) hi
 have h0 := H.full
 have hil := (List.getElem?_eq_some_iff.1 hi).1
 by_cases e : i = k
 ·
  subst e
  have h3 : (d.set i b)[i]? = some b := by rw [List.getElem?_set, if_pos rfl, if_pos hil]
  have h2 := kraft_set (y := a) h3
  omega
 have h3 : (d.set i b)[k]? = some b := by rw [List.getElem?_set, if_neg e]; exact hk
 have h2 := kraft_set (y := a) h3
 omega
theorem swap_get {i k a b : Nat} {d : List Nat} (hi : d[i]? = some a) (hk : d[k]? = some b) : ((d.set i b).set k a)[i]? = some b := by
 have hil := (List.getElem?_eq_some_iff.1 hi).1
 by_cases e : k = i
 ·
  subst e
  obtain rfl : a = b := Option.some.inj (hi.symm.trans hk)
  rw [List.getElem?_set, if_pos rfl, if_pos (by rw [List.length_set]; exact hil)]
 rw [List.getElem?_set, if_neg e, List.getElem?_set, if_pos rfl, if_pos hil]
theorem cyc {k j l : Nat} (hk : k < l) (hj : j < l) (hne : k ≠ j) : (if (k + 1) % l ≤ j then j - (k + 1) % l else j + l - (k + 1) % l) < (if k ≤ j then j - k else j + l - k) := by
 by_cases h : k + 1 < l
 ·
  rw [Nat.mod_eq_of_lt h]
  split <;> split <;> omega
 obtain rfl : l = k + 1 := by omega
 rw [Nat.mod_self, if_pos (Nat.zero_le _)]
 split <;> omega
structure IsI (nd : List Bool) (i : Nat) (l : List Nat) : Prop where
 nodup : l.Nodup
 lt : ∀ x ∈ l, x < i
 need : ∀ x, x < i → nd[x]? = some true → x ∈ l
theorem IsI.nil {nd : List Bool} : IsI nd 0 [] := ⟨.nil, fun _ h => (by cases h), fun _ h => (by omega)⟩
theorem IsI.put {nd : List Bool} {i : Nat} {l : List Nat} (H : IsI nd i l) : IsI nd (i + 1) (l ++ [i]) := by
 refine ⟨List.nodup_append.2 ⟨H.nodup, by simp, fun a ha b hb => by simp at hb; have := H.lt a ha; omega⟩, fun x hx => ?_, fun x hx hn => ?_⟩
 ·
  rcases List.mem_append.1 hx with h | h
  ·
   have := H.lt x h; omega
  simp at h; omega
 by_cases e : x = i
 ·
  subst e; simp
 exact List.mem_append_left _ (H.need x (by omega) hn)
theorem IsI.skip {nd : List Bool} {i : Nat} {l : List Nat} (H : IsI nd i l) (hn : nd[i]? = some false) : IsI nd (i + 1) l := by
 refine ⟨H.nodup, fun x hx => by have := H.lt x hx; omega, fun x hx hn2 => ?_⟩
 by_cases e : x = i
 ·
  subst e; rw [hn] at hn2; cases hn2
 exact H.need x (by omega) hn2
theorem nodup_len : ∀ (n : Nat) {l : List Nat}, l.Nodup → (∀ x ∈ l, x < n) → l.length ≤ n
 | 0, l, _, h => by
  cases l with
  | nil => exact Nat.le_refl _
  | cons a _ => have := h a (List.mem_cons_self ..); omega
 | n + 1, l, hn, h => by
  have h1 := nodup_len n (l := l.erase n) (hn.erase n) (fun x hx => by
   have h2 := h x (List.mem_of_mem_erase hx)
   have : x ≠ n := fun e => by subst e; exact hn.not_mem_erase hx
   omega)
  by_cases hm : n ∈ l
  ·
   rw [List.length_erase_of_mem hm] at h1; omega
  rw [List.erase_of_not_mem hm] at h1; omega
theorem IsI.len {nd : List Bool} {i : Nat} {l : List Nat} (H : IsI nd i l) : l.length ≤ i := nodup_len i H.nodup H.lt
structure IsJ (nd : List Bool) (j : Nat) (l : List Nat) : Prop where
 nodup : l.Nodup
 lt : ∀ x ∈ l, x < nd.length
 need : ∀ x, x < nd.length → nd[x]? = some true → x ∈ l
 nil : l = [] → j = 0
 one : ∀ a, l = [a] → j = 0 ∨ j = 1 ∧ a = 0
theorem IsI.toJ {nd : List Bool} {l : List Nat} (H : IsI nd nd.length l) : IsJ nd 0 l := ⟨H.nodup, H.lt, H.need, fun _ => rfl, fun _ _ => .inl rfl⟩
theorem IsJ.le {nd : List Bool} {j : Nat} {l : List Nat} (H : IsJ nd j l) (h : l.length < 2) : j ≤ 1 := by
 match l, h with
 | [], _ => have := H.nil rfl; omega
 | [a], _ => rcases H.one a rfl with h | h <;> omega
theorem IsJ.put {nd : List Bool} {j : Nat} {l : List Nat} (H : IsJ nd j l) (h2 : 2 ≤ nd.length) (h : l.length < 2) (hx : l = [] ∨ l ≠ [] ∧ l.getD 0 0 ≠ j) : IsJ nd (j + 1) (l ++ [j]) := by
 have hj := H.le h
 refine ⟨?_, fun x hx => ?_, fun x hx hn => List.mem_append_left _ (H.need x hx hn), fun e => by simp at e, fun a e => ?_⟩
 ·
  match l, h with
  | [], _ => simp
  | [a], _ =>
   rcases hx with h | h
   ·
    cases h
   have := h.2; simp at this ⊢; exact this
 ·
  rcases List.mem_append.1 hx with h | h
  ·
   exact H.lt x h
  simp at h; omega
 match l, h with
 | [], _ => simp at e; have := H.nil rfl; omega
 | [b], _ => simp at e
theorem IsJ.skip {nd : List Bool} {j : Nat} {l : List Nat} (H : IsJ nd j l) (h : l.length < 2) (hx : l ≠ []) (he : l.getD 0 0 = j) : IsJ nd (j + 1) l := by
 refine ⟨H.nodup, H.lt, H.need, fun e => absurd e hx, fun a e => ?_⟩
 subst e
 have he : a = j := he
 rcases H.one a rfl with h | h <;> omega
structure Dealt (M : Nat) (is d : List Nat) (n i : Nat) (o : List Nat) : Prop where
 len : o.length = n
 le : ∀ x ∈ o, x ≤ M
 zero : ∀ q, q ∉ is.take i → o.getD q 0 = 0
 ones : ∀ q ∈ is.take i, 1 ≤ o.getD q 0
 full : kraft o = kraft (d.take i)
theorem Dealt.start {M : Nat} {is d : List Nat} {n : Nat} : Dealt M is d n 0 (List.replicate n 0) := by
 refine ⟨List.length_replicate, fun x hx => by rw [(List.mem_replicate.1 hx).2]; exact Nat.zero_le _, fun q _ => ?_, fun q hq => by simp at hq, ?_⟩
 ·
  rw [List.getD_eq_getElem?_getD, List.getElem?_replicate]; split <;> rfl
 have : ∀ n, kraft (List.replicate n 0) = 0 := fun n => by
  induction n with
  | zero => rfl
  | succ n ih => rw [List.replicate_succ, kraft_cons, ih]; rfl
 rw [this]; simp [kraft]
theorem Dealt.put {M n i k a b q : Nat} {is d o : List Nat} (H : Dealt M is d n i o) (hD : DI M d) (hn : is.Nodup) (hlt : ∀ x ∈ is, x < n) (hq : is[i]? = some q) (hi : d[i]? = some a) (hk : d[k]? = some b) (hik : i ≤ k) :
 Dealt M is ((d.set i b).set k a) n (i + 1) (o.set q b) := by
 have hil := (List.getElem?_eq_some_iff.1 hi).1
 have hb := hD.pos b (List.mem_of_getElem? hk)
 have hqn := hlt q (List.mem_of_getElem? hq)
 have hni : q ∉ is.take i := fun hm => by
  obtain ⟨j, hj, e⟩ := List.getElem_of_mem hm
  rw [List.length_take] at hj
  rw [List.getElem_take] at e
  obtain ⟨h1, h2⟩ := List.getElem?_eq_some_iff.1 hq
  exact List.pairwise_iff_getElem.1 hn j i (by omega) h1 (by omega) (e.trans h2.symm)
 have ht : is.take (i + 1) = is.take i ++ [q] := by rw [List.take_add_one, hq]; rfl
 have hz := H.zero q hni
 have hlen := H.len
 have hoq : o[q]? = some 0 := by
  rw [List.getD_eq_getElem?_getD, List.getElem?_eq_getElem (by omega)] at hz
  rw [List.getElem?_eq_getElem (by omega)]; exact congrArg some hz
 refine ⟨by rw [List.length_set]; exact H.len, fun x hx => ?_, fun r hr => ?_, fun r hr => ?_, ?_⟩
 ·
  rcases List.mem_or_eq_of_mem_set hx with h | h
  ·
   exact H.le x h
  omega
 ·
  rw [ht] at hr
  have h1 : r ∉ is.take i := fun h => hr (List.mem_append_left _ h)
  have h2 : r ≠ q := fun h => hr (by rw [h]; simp)
  have := H.zero r h1
  rw [List.getD_eq_getElem?_getD] at this ⊢
  rw [List.getElem?_set, if_neg (by omega)]; exact this
 ·
  rw [ht] at hr
  rw [List.getD_eq_getElem?_getD, List.getElem?_set]
  by_cases e : q = r
  ·
   rw [if_pos e, if_pos (by omega)]; exact hb.1
  rw [if_neg e, ← List.getD_eq_getElem?_getD]
  rcases List.mem_append.1 hr with h | h
  ·
   exact H.ones r h
  simp at h; omega
 have h1 := kraft_set (y := b) hoq
 have hnew : ((d.set i b).set k a)[i]? = some b := by
  by_cases e : k = i
  ·
   subst e
   obtain rfl : a = b := Option.some.inj (hi.symm.trans hk)
   rw [List.getElem?_set, if_pos rfl, if_pos (by rw [List.length_set]; exact hil)]
  rw [List.getElem?_set, if_neg e, List.getElem?_set, if_pos rfl, if_pos hil]
 have h2 := kraft_succ hnew
 have h3 : ((d.set i b).set k a).take i = d.take i := by
  rw [List.take_set_of_le hik, List.take_set_of_le (Nat.le_refl _)]
 rw [h2, h3, ← H.full]
 have : wt 0 = 0 := rfl
 have e : (if b = 0 then 0 else 2 ^ (15 - b)) = wt b := rfl
 rw [e]; omega
theorem Dealt.done {M n : Nat} {is d o : List Nat} (H : Dealt M is d n is.length o) (hD : DI M d) (hM : M ≤ 15) (hl : d.length = is.length) : Full o := by
 have h := H.full
 rw [← hl, List.take_length, hD.full] at h
 show nx o 16 = 2 ^ 15
 rw [kraft_nx (fun x hx => Nat.le_trans (H.le x hx) hM)]; exact h
end Go.Infl
namespace Go.Eng
open Go Go.Proofs Go.Infl
def bcf (nd : List Bool) (j : Nat) : Value := .bool (nd.getD j false)
theorem bcf_get {nd : List Bool} {k : Nat} {x : Bool} (h : nd[k]? = some x) : bcf nd k = .bool x := by unfold bcf; rw [List.getD_eq_getElem?_getD, h]; rfl
def ovf (d : List Nat) (F : Nat → Value) (j : Nat) : Value := if j < d.length then i64 (d.getD j 0) else F j
theorem ovf_get {d : List Nat} {F : Nat → Value} {k x : Nat} (h : d[k]? = some x) : ovf d F k = i64 x := by
 unfold ovf
 rw [if_pos (List.getElem?_eq_some_iff.1 h).1, List.getD_eq_getElem?_getD, h]; rfl
theorem ovf_upd {d : List Nat} {F : Nat → Value} {k x : Nat} (h : k < d.length) : upd (ovf d F) k (i64 x) = ovf (d.set k x) F := by
 funext j
 unfold upd ovf
 rw [List.length_set]
 by_cases e : j = k
 ·
  subst e
  rw [if_pos rfl, if_pos h, List.getD_eq_getElem?_getD, List.getElem?_set, if_pos rfl, if_pos h]; rfl
 have e2 : ¬ k = j := fun h => e h.symm
 rw [if_neg e, List.getD_eq_getElem?_getD, List.getD_eq_getElem?_getD, List.getElem?_set, if_neg e2]
theorem ovf_open {d : List Nat} {F : Nat → Value} (h : ∀ j x, (d.map i64)[j]? = some x → F j = x) : F = ovf d F := by
 funext j
 unfold ovf
 split
 ·
  rename_i hj
  exact h j _ (by rw [List.getElem?_map, List.getD_eq_getElem?_getD, List.getElem?_eq_getElem hj]; rfl)
 rfl
theorem ovf_slc {d : List Nat} {F : Nat → Value} (j : Nat) (x : Value) (h : (d.map i64)[j]? = some x) : ovf d F j = x := by
 rw [List.getElem?_map] at h
 cases hd : d[j]? with
 | none => rw [hd] at h; cases h
 | some y => rw [hd] at h; rw [ovf_get hd]; exact Option.some.inj h
theorem ovf_zero {n : Nat} : (fun _ => i64 0) = ovf (List.replicate n 0) (fun _ => i64 0) := by
 funext j
 unfold ovf
 split
 ·
  rename_i h
  rw [List.length_replicate] at h
  rw [List.getD_eq_getElem?_getD, List.getElem?_replicate, if_pos h]; rfl
 rfl
theorem ovf_done {o : List Nat} {n b : Nat} {F : Nat → Value} (h : o.length = n) : ∀ m, Eng.blk b n (ovf o F) m → Eng.slc 1 (.slice (some ⟨b, 0, none⟩) n n) o.length (o.map i64) m := by
 subst h
 exact mk_slc1 (by rw [List.length_map]) (Nat.le_refl _) ovf_slc
theorem set_get {d : List Nat} {k x : Nat} (h : k < d.length) : (d.set k x)[k]? = some x := by rw [List.getElem?_set, if_pos rfl, if_pos h]
theorem lst_get1 {l : List Value} {j : Nat} {x : Value} (h : l[j]? = some x) : lst l j = x := by unfold lst; rw [List.getD_eq_getElem?_getD, h]; rfl
theorem keep3b {G w : World} {R : List HProp} {A B C X Y : HProp} (h : Sat G w (A :: B :: C :: X :: Y :: R)) : Sat G w (A :: B :: C :: R) := ((h.perm p4).tail.perm p3).tail
theorem t61 (r nb M N : Nat) (nd : List Bool) (hM1 : 1 ≤ M) (hM : M ≤ 15) (hn2 : 2 ≤ nd.length) (hnl : nd.length ≤ 300) (hcap : nd.length ≤ 2 ^ M) (hN : N + 1000 < 1099511627000) {G : World} {R : List HProp} {w : World} (hS : Sat G w (Rdr G r (N) :: blk nb nd.length (bcf nd) :: R)) :
 CallsR Tryz.prog 61 #[(pt r 0), (.slice (some ⟨nb, 0, none⟩) nd.length nd.length), (i64 M)] w (fun v w' => ∃ o : List Nat, o.length = nd.length ∧ (∀ x ∈ o, x ≤ M) ∧ Full o ∧ (∀ i, nd[i]? = some true → 1 ≤ o.getD i 0) ∧ Sat G w' (slc 1 v o.length (o.map i64) :: blk nb nd.length (bcf nd) :: Rdr G r (N + 3 * nd.length) :: R)) := by
 refine calls_in (n := 129) [(0, (pt r 0)), (1, (.slice (some ⟨nb, 0, none⟩) nd.length nd.length)), (2, (i64 M))] Tryz.func61 rfl rfl hS args3 ?_
 refine CT.q (TL.val (r_asg .c) (TL.q (TL.val (r_asg .c) (TL.e (CT.seq (CT.q (TL.m m3 (TL.val (r_len Tryz.underlying70 T0) (TL.val (r_move .c) (TL.e (CT.block (CT.nilslc 1 ?_))))))))))))
 refine CT.fold (A' := (Rdr G r (N + 0))) a1 (Rdr_mono (by omega)) (CT.loop (X := Nat × Value × List Nat) (fun gx => [(18, (i64 gx.1)), (7, gx.2.1), (17, (i64 nd.length)), (16, (.slice (some ⟨nb, 0, none⟩) nd.length nd.length)), (6, (.slice none 0 0)), (0, (pt r 0)), (1, (.slice (some ⟨nb, 0, none⟩) nd.length nd.length)), (2, (i64 M))]) (fun gx => (slc 1 gx.2.1 ((gx.2.2).length) ((gx.2.2).map i64)) :: Rdr G r (N + gx.1) :: blk nb nd.length (bcf nd) :: R) (fun gx => gx.1 ≤ nd.length ∧ IsI nd gx.1 gx.2.2) (fun gx => nd.length - gx.1) ((0, (.slice none 0 0), [])) (⟨Nat.zero_le _, .nil⟩) (.refl _) (.cons m0 (.cons m3 (.cons m1 (.cons m2 (.sl 4 4 rfl))))) ?_)
 rintro ⟨k, v, l⟩ ⟨hI1, hI2⟩
 show CT _ _ _ [(18, (i64 k)), (7, v), (17, (i64 nd.length)), (16, (.slice (some ⟨nb, 0, none⟩) nd.length nd.length)), (6, (.slice none 0 0)), (0, (pt r 0)), (1, (.slice (some ⟨nb, 0, none⟩) nd.length nd.length)), (2, (i64 M))] _ _ (slc 1 v ((l).length) ((l).map i64) :: Rdr G r (N + k) :: blk nb nd.length (bcf nd) :: R)
 replace hI1 : k ≤ nd.length := hI1
 replace hI2 : IsI nd k l := hI2
 have hle := hI2.len
 refine CT.q (TL.val (n_lss k nd.length T0 T2) (TL.e (CT.seq (CT.ifd m0 (fun c19 => ?_) (fun c19 => ?_)))))
 ·
  refine CT.z (EX.seq (CT.seq (CT.block (CT.seq ?_))))
  obtain ⟨x1, hx1⟩ : ∃ x1, nd[k]? = some x1 := ⟨_, List.getElem?_eq_getElem c19⟩
  rcases x1 with _ | _
  ·
   refine CT.region (TL.m m0 (TL.val (r_ia (i := k) (off' := k) Tryz.underlying70 Tryz.sizeOf4 T4 T1 rfl (by omega) (by omega)) (TL.val (r_ld (v := (.bool false)) Tryz.isAgg4 m2 T0 (by omega) (bcf_get hx1)) (TL.a m2 (TL.a m1 (TL.r (.hd (.hd .u3)) (TL.m m0 (TL.m m0 (TL.gv m0 (r_move T9) (TL.perm p1 (TL.gcall m1 (r_call ce_39 (.cons T0 (.cons .c .nil))) (fun w hS => t39 r 40 (N + k) (by omega) (by omega) hS) ?_)))))))))))
   rintro _ w26 ⟨y26, rfl, y26_l, hS⟩
   refine TW.at hS (TL.gv m2 (n_eql y26 0 T0 .c) (TL.val (r_pickf T3 T0) (TL.b (.hd .u5) (CT.ifd m0 (fun c28 => ?_) (fun c28 => ?_)))))
   ·
    refine CT.sub .u1 (CT.region (TL.m m3 (TL.m m2 (TL.w (r_buildSlice (k := 1) (e := 3) (cs := #[(i64 k)]) (F := lst [(i64 k)]) (.cons T0 .nil) (fun _ => by kernel_rfl) rfl lst_ok) ?_))))
    rintro _ w31 ⟨b31, rfl, hS⟩
    refine TW.at hS (TL.perm p2 (TL.w (r_append (j := 1) (k := (l).length) (ds := [(i64 k)]) el_42 Tryz.underlying42 T2 T0 ⟨_, _, rfl⟩ (rdsl m1 rfl rfl) ones1 (by omega) (by omega)) ?_))
    rintro v32 w32 hS
    have ho32 := hS.slc_one
    refine TW.at hS (TL.fold (A' := (slc 1 v32 ((l ++ [k]).length) ((l ++ [k]).map i64))) a0 (slc_eq (by rw [List.length_append, List.length_singleton]) map_snoc) ?_)
    refine TL.rm .h7 (TL.a m0 (TL.x (.hd .u4) (EX.bnormal (EX.seq (CT.region (TL.val (n_add k 1 9223372036854775808 T3 .c) (TL.rm .h4 (TL.m m0 (TL.x (.hd .u1) (EX.perm p1 (EX.conv (fun _ h => h.tail) ?_)))))))))))
    exact EX.again ((k + 1, v32, l ++ [k])) (⟨(show k + 1 ≤ nd.length by omega), (show IsI nd (k + 1) (l ++ [k]) from hI2.put)⟩) (by show nd.length - (k + 1) < nd.length - k; omega) (.refl _) (.eq m0 (by first | rfl | (congr 1 <;> omega)) (.cons m1 (.sl 4 6 rfl)))
   exact CT.z (EX.bnormal (EX.seq (CT.region (TL.val (n_add k 1 9223372036854775808 T2 .c) (TL.rm .h3 (TL.m m0 (TL.x (.hd .u1) (EX.perm p2 (EX.perm p1 (EX.perm p2 (EX.again ((k + 1, v, l)) (⟨(show k + 1 ≤ nd.length by omega), (show IsI nd (k + 1) l from hI2.skip hx1)⟩) (by show nd.length - (k + 1) < nd.length - k; omega) (.refl _) (.eq m0 (by first | rfl | (congr 1 <;> omega)) (.sl 3 7 rfl)))))))))))))
  refine CT.region (TL.m m0 (TL.val (r_ia (i := k) (off' := k) Tryz.underlying70 Tryz.sizeOf4 T4 T1 rfl (by omega) (by omega)) (TL.val (r_ld (v := (.bool true)) Tryz.isAgg4 m2 T0 (by omega) (bcf_get hx1)) (TL.a m2 (TL.a m1 (TL.r (.hd (.hd .u3)) (TL.m m0 (TL.m m0 (TL.gn m0 (TL.gn m0 (TL.gn m0 (TL.val (r_pickt T0 .c) (TL.b (.hd .u2) (CT.ift m0 ?_))))))))))))))
  refine CT.sub .u1 (CT.region (TL.m m3 (TL.m m2 (TL.w (r_buildSlice (k := 1) (e := 3) (cs := #[(i64 k)]) (F := lst [(i64 k)]) (.cons T0 .nil) (fun _ => by kernel_rfl) rfl lst_ok) ?_))))
  rintro _ w31 ⟨b31, rfl, hS⟩
  refine TW.at hS (TL.perm p1 (TL.w (r_append (j := 1) (k := (l).length) (ds := [(i64 k)]) el_42 Tryz.underlying42 T2 T0 ⟨_, _, rfl⟩ (rdsl m1 rfl rfl) ones1 (by omega) (by omega)) ?_))
  rintro v32 w32 hS
  have ho32 := hS.slc_one
  refine TW.at hS (TL.fold (A' := (slc 1 v32 ((l ++ [k]).length) ((l ++ [k]).map i64))) a0 (slc_eq (by rw [List.length_append, List.length_singleton]) map_snoc) ?_)
  refine TL.rm .h7 (TL.a m0 (TL.x (.hd .u4) (EX.bnormal (EX.seq (CT.region (TL.val (n_add k 1 9223372036854775808 T3 .c) (TL.rm .h4 (TL.m m0 (TL.x (.hd .u1) (EX.fold (A' := (Rdr G r (N + k + 1))) a2 (Rdr_mono (by first | omega | (rw [List.length_append, List.length_singleton, List.length_set]; omega) | (rw [List.length_append, List.length_singleton]; omega))) (EX.perm p1 (EX.conv (fun _ h => h.tail) ?_))))))))))))
  exact EX.again ((k + 1, v32, l ++ [k])) (⟨(show k + 1 ≤ nd.length by omega), (show IsI nd (k + 1) (l ++ [k]) from hI2.put)⟩) (by show nd.length - (k + 1) < nd.length - k; omega) (.refl _) (.eq m0 (by first | rfl | (congr 1 <;> omega)) (.cons m1 (.sl 4 6 rfl)))
 refine CT.sub .u1 (CT.exit (EX.then_exit (EX.then_exit (EX.out (EX.seq (CT.seq (CT.q (TL.val (r_asg .c) (TL.e (CT.block ?_))))))))))
 have hJ0 : IsJ nd 0 l := by have e : k = nd.length := (by omega); rw [e] at hI2; exact hI2.toJ
 refine CT.fold (A' := (Rdr G r (N + nd.length))) a1 (Rdr_mono (by omega)) (CT.loop (X := Nat × Value × List Nat) (fun gx => [(10, (i64 gx.1)), (7, gx.2.1), (6, (.slice none 0 0)), (0, (pt r 0)), (1, (.slice (some ⟨nb, 0, none⟩) nd.length nd.length)), (2, (i64 M))]) (fun gx => (slc 1 gx.2.1 ((gx.2.2).length) ((gx.2.2).map i64)) :: Rdr G r (N + nd.length) :: blk nb nd.length (bcf nd) :: R) (fun gx => IsJ nd gx.1 gx.2.2) (fun gx => 2 - gx.1) ((0, v, l)) hJ0 (.refl _) (.cons m0 (.cons m2 (.sl 5 4 rfl))) ?_)
 rintro ⟨j, vi, is⟩ hJ
 show CT _ _ _ [(10, (i64 j)), (7, vi), (6, (.slice none 0 0)), (0, (pt r 0)), (1, (.slice (some ⟨nb, 0, none⟩) nd.length nd.length)), (2, (i64 M))] _ _ (slc 1 vi ((is).length) ((is).map i64) :: Rdr G r (N + nd.length) :: blk nb nd.length (bcf nd) :: R)
 replace hJ : IsJ nd j is := hJ
 refine CT.seq (CT.q (TL.m m1 (TL.val (r_lens Tryz.underlying42 T0 m0) (TL.val (n_lss ((is).length) 2 T0 .c) (TL.b (.hd .u2) (CT.ifd m0 (fun c36 => ?_) (fun c36 => ?_)))))))
 ·
  refine CT.z (EX.seq (CT.seq (CT.block (CT.seq ?_))))
  have hj1 := hJ.le c36
  rcases Nat.eq_zero_or_pos is.length with h0 | h0
  ·
   refine CT.region (TL.m m1 (TL.val (r_lens Tryz.underlying42 T0 m0) (TL.val (n_eql ((is).length) 0 T0 .c) (TL.m m0 ?_))))
   by_cases g42 : (is).length = 0
   ·
    refine TL.sub (.eq m0 (congrArg Value.bool (decide_eq_true g42)) (.eq m1 (congrArg Value.bool (decide_eq_true g42)) (.cons m2 (.cons m3 (.cons m4 (.cons m5 (.cons m6 (.cons m7 (.cons m8 (.cons m9 .nil)))))))))) (TL.gn m0 (TL.gn m0 (TL.gn m0 (TL.gn m0 (TL.gn m0 (TL.val (r_pickt T0 .c) (TL.b (.hd .u4) (CT.ift m0 ?_))))))))
    refine CT.sub .u1 (CT.region (TL.m m1 (TL.m m1 (TL.w (r_buildSlice (k := 1) (e := 3) (cs := #[(i64 j)]) (F := lst [(i64 j)]) (.cons T0 .nil) (fun _ => by kernel_rfl) rfl lst_ok) ?_))))
    rintro _ w51 ⟨b51, rfl, hS⟩
    refine TW.at hS (TL.perm p1 (TL.w (r_append (j := 1) (k := (is).length) (ds := [(i64 j)]) el_42 Tryz.underlying42 T2 T0 ⟨_, _, rfl⟩ (rdsl m1 rfl rfl) ones1 (by omega) (by omega)) ?_))
    rintro v52 w52 hS
    have ho52 := hS.slc_one
    refine TW.at hS (TL.fold (A' := (slc 1 v52 ((is ++ [j]).length) ((is ++ [j]).map i64))) a0 (slc_eq (by rw [List.length_append, List.length_singleton]) map_snoc) ?_)
    refine TL.rm .h5 (TL.a m0 (TL.x (.hd .u4) (EX.bnormal (EX.seq (CT.region (TL.m m1 (TL.val (n_add j 1 9223372036854775808 T0 .c) (TL.rm .h3 (TL.a m0 (TL.x (.hd .u2) (EX.perm p1 (EX.conv (fun _ h => h.tail) ?_))))))))))))
    exact EX.again ((j + 1, v52, is ++ [j])) ((show IsJ nd (j + 1) (is ++ [j]) from hJ.put hn2 c36 (.inl (List.length_eq_zero_iff.1 h0)))) (by show 2 - (j + 1) < 2 - j; omega) (.refl _) (.eq m0 (by first | rfl | (congr 1 <;> omega)) (.sl 1 5 rfl))
   exfalso; omega
  obtain ⟨x2, hx2⟩ : ∃ x2, is[0]? = some x2 := ⟨_, List.getElem?_eq_getElem h0⟩
  have hx2e : is.getD 0 0 = x2 := by rw [List.getD_eq_getElem?_getD, hx2]; rfl
  refine CT.peek m0 (by omega) ?_
  intro e e_c e_v e_k e_l
  refine CT.region (TL.m m1 (TL.val (r_lens Tryz.underlying42 T0 m0) (TL.val (n_eql ((is).length) 0 T0 .c) (TL.m m0 ?_))))
  by_cases g42 : (is).length = 0
  ·
   exfalso; omega
  refine TL.sub (.eq m0 (congrArg Value.bool (decide_eq_false g42)) (.eq m1 (congrArg Value.bool (decide_eq_false g42)) (.cons m2 (.cons m3 (.cons m4 (.cons m5 (.cons m6 (.cons m7 (.cons m8 (.cons m9 .nil)))))))))) (TL.gv m0 (r_move T5) (TL.gv m1 (r_ia (i := 0) (off' := 0) Tryz.underlying42 Tryz.sizeOf3 (.te m0 e_v) .c rfl (by omega) rfl) (TL.gv m2 (r_lds (u := (i64 x2)) Tryz.isAgg3 m0 e_v T0 (by rw [List.getElem?_map, hx2]; rfl)) ?_)))
  refine TL.gv m3 (r_move T7) (TL.gv m4 (n_neq x2 j T1 T0) (TL.val (r_pickf T5 T0) (TL.b (.hd .u9) (CT.ifd m0 (fun c48 => ?_) (fun c48 => ?_)))))
  ·
   refine CT.sub .u1 (CT.region (TL.m m1 (TL.m m1 (TL.w (r_buildSlice (k := 1) (e := 3) (cs := #[(i64 j)]) (F := lst [(i64 j)]) (.cons T0 .nil) (fun _ => by kernel_rfl) rfl lst_ok) ?_))))
   rintro _ w51 ⟨b51, rfl, hS⟩
   refine TW.at hS (TL.perm p1 (TL.w (r_append (j := 1) (k := (is).length) (ds := [(i64 j)]) el_42 Tryz.underlying42 T2 T0 ⟨_, _, rfl⟩ (rdsl m1 rfl rfl) ones1 (by omega) (by omega)) ?_))
   rintro v52 w52 hS
   have ho52 := hS.slc_one
   refine TW.at hS (TL.fold (A' := (slc 1 v52 ((is ++ [j]).length) ((is ++ [j]).map i64))) a0 (slc_eq (by rw [List.length_append, List.length_singleton]) map_snoc) ?_)
   refine TL.rm .h5 (TL.a m0 (TL.x (.hd .u4) (EX.bnormal (EX.seq (CT.region (TL.m m1 (TL.val (n_add j 1 9223372036854775808 T0 .c) (TL.rm .h3 (TL.a m0 (TL.x (.hd .u2) (EX.perm p1 (EX.conv (fun _ h => h.tail) ?_))))))))))))
   exact EX.again ((j + 1, v52, is ++ [j])) ((show IsJ nd (j + 1) (is ++ [j]) from hJ.put hn2 c36 (.inr ⟨by intro e; rw [e] at h0; exact absurd h0 (by decide), by rw [hx2e]; exact c48⟩))) (by show 2 - (j + 1) < 2 - j; omega) (.refl _) (.eq m0 (by first | rfl | (congr 1 <;> omega)) (.sl 1 5 rfl))
  exact CT.z (EX.bnormal (EX.seq (CT.region (TL.m m0 (TL.val (n_add j 1 9223372036854775808 T0 .c) (TL.rm .h2 (TL.a m0 (TL.x (.hd .u2) (EX.again ((j + 1, vi, is)) ((show IsJ nd (j + 1) is from hJ.skip c36 (by intro e; rw [e] at h0; exact absurd h0 (by decide)) (by rw [hx2e]; exact Classical.not_not.1 c48))) (by show 2 - (j + 1) < 2 - j; omega) (.refl _) (.eq m0 (by first | rfl | (congr 1 <;> omega)) (.sl 1 5 rfl)))))))))))
 refine CT.sub .u1 (CT.exit (EX.then_exit (EX.then_exit (EX.out (EX.q (TL.w (r_buildSlice (k := 2) (e := 3) (cs := #[(.int .i64 1), (.int .i64 1)]) (F := lst [(.int .i64 1), (.int .i64 1)]) (.cons .c (.cons .c .nil)) (fun _ => by kernel_rfl) rfl lst_ok) ?_))))))
 rintro _ w53 ⟨b53, rfl, hS⟩
 refine TW.at hS (TL.a m0 (TL.b (.hd .u1) (CT.seq (CT.block ?_))))
 have hisl := nodup_len _ hJ.nodup hJ.lt
 refine CT.fold (A' := (slc 1 (.slice (some ⟨b53, 0, none⟩) 2 2) (([1, 1] : List Nat).length) (([1, 1] : List Nat).map i64))) a0 (mk_slc1 rfl (by decide) (fun j x h => lst_get1 h)) (CT.fold (A' := (Rdr G r (N + nd.length + ([1, 1] : List Nat).length))) a2 (Rdr_mono (by omega)) (CT.perm p1 (CT.perm p3 (CT.perm p3 (CT.perm p3 (CT.loop (X := Value × List Nat) (fun gx => [(11, gx.1), (7, vi), (6, (.slice none 0 0)), (0, (pt r 0)), (1, (.slice (some ⟨nb, 0, none⟩) nd.length nd.length)), (2, (i64 M))]) (fun gx => (slc 1 gx.1 ((gx.2).length) ((gx.2).map i64)) :: Rdr G r (N + nd.length + (gx.2).length) :: blk nb nd.length (bcf nd) :: slc 1 vi ((is).length) ((is).map i64) :: R) (fun gx => DI M gx.2 ∧ (gx.2).length ≤ is.length) (fun gx => is.length - (gx.2).length) (((.slice (some ⟨b53, 0, none⟩) 2 2), ([1, 1] : List Nat))) (⟨.start (by omega), by show 2 ≤ is.length; omega⟩) (.refl _) (.cons m0 (.sl 2 5 rfl)) ?_))))))
 rintro ⟨v4, d⟩ ⟨hD, hdl⟩
 show CT _ _ _ [(11, v4), (7, vi), (6, (.slice none 0 0)), (0, (pt r 0)), (1, (.slice (some ⟨nb, 0, none⟩) nd.length nd.length)), (2, (i64 M))] _ _ (slc 1 v4 ((d).length) ((d).map i64) :: Rdr G r (N + nd.length + (d).length) :: blk nb nd.length (bcf nd) :: slc 1 vi ((is).length) ((is).map i64) :: R)
 replace hD : DI M d := hD
 replace hdl : d.length ≤ is.length := hdl
 have hd2 := hD.two
 refine CT.seq (CT.q (TL.m m0 (TL.val (r_lens Tryz.underlying42 T0 m0) (TL.m m3 (TL.val (r_lens Tryz.underlying42 T0 m3) (TL.val (n_lss ((d).length) ((is).length) T2 T0) (TL.b (.hd .u4) (CT.ifd m0 (fun c58 => ?_) (fun c58 => ?_)))))))))
 ·
  refine CT.z (EX.seq (CT.block (CT.q (TL.m m3 (TL.m m1 (TL.val (r_lens Tryz.underlying42 T0 m0) (TL.perm p1 (TL.call (r_call ce_39 (.cons T2 (.cons T0 .nil))) (fun w hS => t39 r ((d).length) (N + nd.length + (d).length) (by omega) (by omega) hS) ?_))))))))
  rintro _ w62 ⟨y62, rfl, y62_l, hS⟩
  refine TW.at hS (TL.a m0 (TL.b (.hd .u4) (CT.seq (CT.block ?_))))
  obtain ⟨j4, hj4, hj5⟩ := hD.free (by omega) hM (by omega)
  refine CT.perm p3 (CT.perm p3 (CT.perm p2 (CT.perm p3 (CT.loop (X := Nat) (fun gx => [(12, (i64 gx)), (11, v4), (7, vi), (6, (.slice none 0 0)), (0, (pt r 0)), (1, (.slice (some ⟨nb, 0, none⟩) nd.length nd.length)), (2, (i64 M))]) (fun gx => (slc 1 v4 ((d).length) ((d).map i64)) :: Rdr G r (N + nd.length + (d).length + 1) :: blk nb nd.length (bcf nd) :: slc 1 vi ((is).length) ((is).map i64) :: R) (fun gx => gx < d.length) (fun gx => if gx ≤ j4 then j4 - gx else j4 + d.length - gx) y62 (show y62 < d.length by omega) (.refl _) (.sl 0 7 rfl) ?_))))
  rintro k hk
  show CT _ _ _ [(12, (i64 k)), (11, v4), (7, vi), (6, (.slice none 0 0)), (0, (pt r 0)), (1, (.slice (some ⟨nb, 0, none⟩) nd.length nd.length)), (2, (i64 M))] _ _ (slc 1 v4 ((d).length) ((d).map i64) :: Rdr G r (N + nd.length + (d).length + 1) :: blk nb nd.length (bcf nd) :: slc 1 vi ((is).length) ((is).map i64) :: R)
  replace hk : k < d.length := hk
  obtain ⟨x1, hx1⟩ : ∃ x1, d[k]? = some x1 := ⟨_, List.getElem?_eq_getElem hk⟩
  have hx1e : d.getD k 0 = x1 := by rw [List.getD_eq_getElem?_getD, hx1]; rfl
  have hxp := hD.pos x1 (List.mem_of_getElem? hx1)
  refine CT.seq (CT.seq (CT.peek m0 (by omega) ?_))
  intro f f_c f_v f_k f_l
  refine CT.region (TL.m m1 (TL.m m1 (TL.val (r_ia (i := k) (off' := k) Tryz.underlying42 Tryz.sizeOf3 (.te m1 f_v) T0 rfl (by omega) (by omega)) (TL.val (r_lds (u := (i64 x1)) Tryz.isAgg3 m0 f_v T0 (by rw [List.getElem?_map, hx1]; rfl)) ?_))))
  refine TL.m m10 (TL.val (n_eql x1 (M) T1 T0) (TL.b (.hd .u5) (CT.ifd m0 (fun c68 => ?_) (fun c68 => ?_))))
  ·
   exact CT.z (EX.seq (CT.block (CT.region (TL.m m0 (TL.val (n_add k 1 9223372036854775808 T0 .c) (TL.m m3 (TL.val (r_lens Tryz.underlying42 T0 m0) (TL.val (n_rem ((k + 1)) ((d).length) T2 T0 rfl rfl (by omega)) (TL.rm .h5 (TL.a m0 (TL.x (.hd .u5) (EX.bnormal (EX.again ((k + 1) % d.length) (Nat.mod_lt _ (by omega)) (cyc hk hj4 (fun e => hj5 (by rw [← e, hx1e]; exact c68))) (.refl _) (.eq m0 (by first | rfl | (congr 1 <;> omega)) (.sl 1 6 rfl)))))))))))))))
  refine CT.sub .u1 (CT.exit (EX.then_exit (EX.then_exit (EX.out (EX.seq (CT.seq (CT.open1 (by omega) ?_)))))))
  rintro db db_c db_F rfl db_k db_l db_h
  refine CT.fold (A' := (blk db db_c (ovf d db_F))) a0 (blk_eq rfl (ovf_open db_h)) (CT.region (TL.m m1 (TL.m m1 (TL.val (r_ia (i := k) (off' := k) Tryz.underlying42 Tryz.sizeOf3 T1 T0 rfl (by omega) (by omega)) (TL.val (r_ld (v := (i64 x1)) Tryz.isAgg3 m0 T0 (by omega) (ovf_get hx1)) (TL.val (n_add x1 1 9223372036854775808 T0 .c) (TL.val (r_ia (i := k) (off' := k) Tryz.underlying42 Tryz.sizeOf3 T4 T3 rfl (by omega) (by omega)) (TL.s (r_st (F' := ovf ((d).set k (x1 + 1)) db_F) Tryz.sizeOf3 (ovf_upd (by first | omega | (rw [List.length_set]; omega))) a0 T0 T1 (by omega)) (TL.b .u6 (CT.region (TL.m m1 (TL.m m2 (TL.m m2 (TL.val (r_ia (i := k) (off' := k) Tryz.underlying42 Tryz.sizeOf3 T1 T0 rfl (by omega) (by omega)) (TL.val (r_ld (v := (i64 (x1 + 1))) Tryz.isAgg3 m0 T0 (by omega) (ovf_get (set_get hk))) (TL.w (r_buildSlice (k := 1) (e := 3) (cs := #[(i64 (x1 + 1))]) (F := lst [(i64 (x1 + 1))]) (.cons T0 .nil) (fun _ => by kernel_rfl) rfl lst_ok) ?_))))))))))))))))
  rintro _ w85 ⟨b85, rfl, hS⟩
  refine TW.at hS (TL.fold (A' := (slc 1 (.slice (some ⟨db, 0, none⟩) ((d).length) db_c) d.length ((d.set k (x1 + 1)).map i64))) a1 (mk_slc1 (by rw [List.length_map, List.length_set]) db_k ovf_slc) ?_)
  refine TL.perm p1 (TL.w (r_append (j := 1) (k := d.length) (ds := [(i64 (x1 + 1))]) el_42 Tryz.underlying42 T5 T0 ⟨_, _, rfl⟩ (rdsl m1 rfl rfl) ones1 (by first | omega | (rw [List.length_set]; omega)) (by first | omega | (rw [List.length_set]; omega))) ?_)
  rintro v86 w86 hS
  have ho86 := hS.slc_one
  refine TW.at hS (TL.fold (A' := (slc 1 v86 ((d.set k (x1 + 1) ++ [x1 + 1]).length) ((d.set k (x1 + 1) ++ [x1 + 1]).map i64))) a0 (slc_eq (by rw [List.length_append, List.length_singleton, List.length_set]) map_snoc) ?_)
  refine TL.rm .h8 (TL.a m0 (TL.x (.hd .u7) (EX.bnormal (EX.fold (A' := (Rdr G r (N + nd.length + (d.set k (x1 + 1) ++ [x1 + 1]).length))) a2 (Rdr_mono (by first | omega | (rw [List.length_append, List.length_singleton, List.length_set]; omega) | (rw [List.length_append, List.length_singleton]; omega))) (EX.perm p1 (EX.conv (fun _ h => h.tail) ?_))))))
  exact EX.again ((v86, d.set k (x1 + 1) ++ [x1 + 1])) (⟨hD.grow hM hx1 c68, by show (d.set k (x1 + 1) ++ [x1 + 1]).length ≤ _; rw [List.length_append, List.length_set, List.length_singleton]; omega⟩) (by show _ - (d.set k (x1 + 1) ++ [x1 + 1]).length < _ - d.length; rw [List.length_append, List.length_set, List.length_singleton]; omega) (.refl _) (.cons m0 (.sl 2 5 rfl))
 refine CT.sub .u1 (CT.exit (EX.then_exit (EX.then_exit (EX.out (EX.q (TL.m m4 (TL.val (r_len Tryz.underlying70 T0) (TL.w (r_make (l := nd.length) (c := nd.length) Tryz.underlying42 Tryz.sizeOf3 ⟨_, Tryz.typeInfo3, rfl⟩ Tryz.zeroValue3 rfl T0 T0 rfl rfl (by omega) (by exact Nat.le_trans (Nat.mul_le_mul_right _ hnl) (Nat.le_of_ble_eq_true rfl)) (by omega)) ?_))))))))
 rintro _ w89 ⟨b89, rfl, hS⟩
 refine TW.at hS (TL.a m0 (TL.b (.hd .u3) (CT.seq (CT.q (TL.m m2 (TL.val (r_lens Tryz.underlying42 T0 m4) (TL.val (r_move .c) (TL.b (.hd (.hd .u1)) (CT.block ?_)))))))))
 have hdl2 : d.length = is.length := by omega
 refine CT.perm p1 (CT.open1 (by omega) ?_)
 rintro db db_c db_F rfl db_k db_l db_h
 refine CT.fold (A' := (blk db db_c (ovf d db_F))) a0 (blk_eq rfl (ovf_open db_h)) (CT.fold (A' := (blk b89 nd.length (ovf (List.replicate nd.length 0) (fun _ => i64 0)))) a1 (blk_eq rfl ovf_zero) (CT.fold (A' := (Rdr G r (N + nd.length + (d).length + 0))) a2 (Rdr_mono (by omega)) (CT.loop (X := Nat × List Nat × List Nat) (fun gx => [(92, (i64 gx.1)), (91, (i64 ((is).length))), (13, (.slice (some ⟨b89, 0, none⟩) nd.length nd.length)), (11, (.slice (some ⟨db, 0, none⟩) ((d).length) db_c)), (7, vi), (6, (.slice none 0 0)), (0, (pt r 0)), (1, (.slice (some ⟨nb, 0, none⟩) nd.length nd.length)), (2, (i64 M))]) (fun gx => (blk db db_c (ovf gx.2.1 db_F)) :: blk b89 nd.length (ovf gx.2.2 (fun _ => i64 0)) :: Rdr G r (N + nd.length + (d).length + gx.1) :: blk nb nd.length (bcf nd) :: slc 1 vi ((is).length) ((is).map i64) :: R) (fun gx => gx.1 ≤ is.length ∧ DI M gx.2.1 ∧ (gx.2.1).length = is.length ∧ Dealt M is gx.2.1 nd.length gx.1 gx.2.2) (fun gx => is.length - gx.1) ((0, d, List.replicate nd.length 0)) (⟨Nat.zero_le _, hD, hdl2, .start⟩) (.refl _) (.sl 0 9 rfl) ?_)))
 rintro ⟨k, e, o⟩ ⟨hk, hE, hel, ho⟩
 show CT _ _ _ [(92, (i64 k)), (91, (i64 ((is).length))), (13, (.slice (some ⟨b89, 0, none⟩) nd.length nd.length)), (11, (.slice (some ⟨db, 0, none⟩) ((d).length) db_c)), (7, vi), (6, (.slice none 0 0)), (0, (pt r 0)), (1, (.slice (some ⟨nb, 0, none⟩) nd.length nd.length)), (2, (i64 M))] _ _ (blk db db_c (ovf e db_F) :: blk b89 nd.length (ovf o (fun _ => i64 0)) :: Rdr G r (N + nd.length + (d).length + k) :: blk nb nd.length (bcf nd) :: slc 1 vi ((is).length) ((is).map i64) :: R)
 replace hk : k ≤ is.length := hk
 replace hE : DI M e := hE
 replace hel : e.length = is.length := hel
 replace ho : Dealt M is e nd.length k o := ho
 refine CT.q (TL.val (n_lss k ((is).length) T0 T1) (TL.e (CT.seq (CT.ifd m0 (fun c93 => ?_) (fun c93 => ?_)))))
 ·
  refine CT.z (EX.seq (CT.seq (CT.block (CT.q (TL.m m0 (TL.a m0 (TL.r (.hd .u1) (TL.m m0 (TL.m m8 (TL.m m7 (TL.val (r_lens Tryz.underlying42 T0 m4) (TL.m m4 (TL.val (n_sub ((is).length) k 9223372036854775808 T1 T0) (TL.perm p2 (TL.call (r_call ce_39 (.cons T4 (.cons T0 .nil))) (fun w hS => t39 r (((is).length - k)) (N + nd.length + (d).length + k) (by omega) (by omega) hS) ?_)))))))))))))))
  rintro _ w101 ⟨y101, rfl, y101_l, hS⟩
  refine TW.at hS (TL.val (n_add k y101 9223372036854775808 T6 T0) (TL.a m0 (TL.b (.hd .u8) (CT.seq ?_))))
  obtain ⟨av, ha1⟩ : ∃ av, e[k]? = some av := ⟨_, List.getElem?_eq_getElem (by omega)⟩
  obtain ⟨bv, hb1⟩ : ∃ bv, e[k + y101]? = some bv := ⟨_, List.getElem?_eq_getElem (by omega)⟩
  have hap := hE.pos av (List.mem_of_getElem? ha1); have hbp := hE.pos bv (List.mem_of_getElem? hb1)
  refine CT.any fm ?_
  refine TA.t 0 rfl (fun G L => r_move T5) (TA.t 1 rfl (fun G L => r_move T2) (TA.t 2 rfl (fun G L => r_move T7) (TA.t 3 rfl (fun G L => r_move T3) (TA.t 4 rfl (fun G L => r_move T9) (TA.t 5 rfl (fun G L => r_move T5) (TA.t 6 rfl (fun G L => r_ia (i := (k + y101)) (off' := (k + y101)) Tryz.underlying42 Tryz.sizeOf3 T1 T0 rfl (by omega) (by omega)) (TA.t 8 rfl (fun G L => r_move T12) (TA.t 9 rfl (fun G L => r_move T9) (TA.t 10 rfl (fun G L => r_ia (i := k) (off' := k) Tryz.underlying42 Tryz.sizeOf3 T1 T0 rfl (by omega) (by omega)) (TA.two 7 11 (by kernel_rfl) ?_ ?_))))))))))
  ·
   refine TO.val rfl (r_ld (v := (i64 bv)) Tryz.isAgg3 m1 T3 (by omega) (ovf_get hb1)) (TA.one 11 (by kernel_rfl) (TO.val rfl (r_ld (v := (i64 av)) Tryz.isAgg3 m1 T1 (by omega) (ovf_get ha1)) (TA.t 12 rfl (fun G L => r_ia (i := k) (off' := k) Tryz.underlying42 Tryz.sizeOf3 T11 T10 rfl (by omega) (by omega)) (TA.one 13 (by kernel_rfl) (TO.s rfl (r_st (F' := ovf ((e).set k bv) db_F) Tryz.sizeOf3 (ovf_upd (by first | omega | (rw [List.length_set]; omega))) a1 T0 T2 (by omega)) (TA.t 14 rfl (fun G L => r_ia (i := (k + y101)) (off' := (k + y101)) Tryz.underlying42 Tryz.sizeOf3 T10 T9 rfl (by omega) (by omega)) (TA.one 15 (by kernel_rfl) (TO.s rfl (r_st (F' := ovf (((e).set k bv).set ((k + y101)) av) db_F) Tryz.sizeOf3 (ovf_upd (by first | omega | (rw [List.length_set]; omega))) a1 T0 T2 (by omega)) (TA.done (by kernel_rfl) (EX.sub .u14 (EX.seq ?_)))))))))))
   obtain ⟨q, hq⟩ : ∃ q, is[k]? = some q := ⟨_, List.getElem?_eq_getElem (by omega)⟩
   have hql := hJ.lt q (List.mem_of_getElem? hq)
   refine CT.peek m4 (by omega) ?_
   intro pq pq_c pq_v pq_k pq_l
   refine CT.draw 10 fm (by kernel_rfl) ?_
   refine TS.m m4 (TS.m m7 (TS.m m3 (TS.val (r_ia (i := k) (off' := k) Tryz.underlying42 Tryz.sizeOf3 (.te m1 pq_v) T0 rfl (by omega) (by omega)) (TS.val (r_lds (u := (i64 q)) Tryz.isAgg3 m4 pq_v T0 (by rw [List.getElem?_map, hq]; rfl)) ?_))))
   exact TS.m m10 (TS.m m7 (TS.val (r_ia (i := k) (off' := k) Tryz.underlying42 Tryz.sizeOf3 T1 T0 rfl (by omega) (by omega)) (TS.val (r_ld (v := (i64 bv)) Tryz.isAgg3 m1 T0 (by omega) (ovf_get (swap_get ha1 hb1))) (TS.val (r_ia (i := q) (off' := q) Tryz.underlying42 Tryz.sizeOf3 T8 T4 rfl (by omega) (by omega)) (TS.nil (TL.s (r_st (F' := ovf ((o).set q bv) (fun _ => i64 0)) Tryz.sizeOf3 (ovf_upd (by rw [ho.len]; omega)) a2 T0 T1 (by omega)) (TL.x .u10 (EX.bnormal (EX.seq (CT.region (TL.val (n_add k 1 9223372036854775808 T2 .c) (TL.rm .h3 (TL.m m0 (TL.x (.hd .u1) (EX.perm p4 (EX.perm p4 (EX.perm p2 (EX.perm p4 (EX.perm p4 (EX.again ((k + 1, (e.set k bv).set (k + y101) av, o.set q bv)) (⟨show k + 1 ≤ is.length by omega, hE.swap ha1 hb1, by show ((e.set k bv).set (k + y101) av).length = _; rw [List.length_set, List.length_set]; exact hel, ho.put hE hJ.nodup hJ.lt hq ha1 hb1 (Nat.le_add_right _ _)⟩) (by show is.length - (k + 1) < is.length - k; omega) (.refl _) (.eq m0 (by first | rfl | (congr 1 <;> omega)) (.sl 3 8 rfl))))))))))))))))))))))
  refine TO.val rfl (r_ld (v := (i64 av)) Tryz.isAgg3 m1 T0 (by omega) (ovf_get ha1)) (TA.one 7 (by kernel_rfl) (TO.val rfl (r_ld (v := (i64 bv)) Tryz.isAgg3 m1 T4 (by omega) (ovf_get hb1)) (TA.t 12 rfl (fun G L => r_ia (i := k) (off' := k) Tryz.underlying42 Tryz.sizeOf3 T11 T10 rfl (by omega) (by omega)) (TA.one 13 (by kernel_rfl) (TO.s rfl (r_st (F' := ovf ((e).set k bv) db_F) Tryz.sizeOf3 (ovf_upd (by first | omega | (rw [List.length_set]; omega))) a1 T0 T1 (by omega)) (TA.t 14 rfl (fun G L => r_ia (i := (k + y101)) (off' := (k + y101)) Tryz.underlying42 Tryz.sizeOf3 T10 T9 rfl (by omega) (by omega)) (TA.one 15 (by kernel_rfl) (TO.s rfl (r_st (F' := ovf (((e).set k bv).set ((k + y101)) av) db_F) Tryz.sizeOf3 (ovf_upd (by first | omega | (rw [List.length_set]; omega))) a1 T0 T3 (by omega)) (TA.done (by kernel_rfl) (EX.sub .u14 (EX.seq ?_)))))))))))
  obtain ⟨q, hq⟩ : ∃ q, is[k]? = some q := ⟨_, List.getElem?_eq_getElem (by omega)⟩
  have hql := hJ.lt q (List.mem_of_getElem? hq)
  refine CT.peek m4 (by omega) ?_
  intro pq pq_c pq_v pq_k pq_l
  refine CT.draw 10 fm (by kernel_rfl) ?_
  refine TS.m m4 (TS.m m7 (TS.m m3 (TS.val (r_ia (i := k) (off' := k) Tryz.underlying42 Tryz.sizeOf3 (.te m1 pq_v) T0 rfl (by omega) (by omega)) (TS.val (r_lds (u := (i64 q)) Tryz.isAgg3 m4 pq_v T0 (by rw [List.getElem?_map, hq]; rfl)) ?_))))
  exact TS.m m10 (TS.m m7 (TS.val (r_ia (i := k) (off' := k) Tryz.underlying42 Tryz.sizeOf3 T1 T0 rfl (by omega) (by omega)) (TS.val (r_ld (v := (i64 bv)) Tryz.isAgg3 m1 T0 (by omega) (ovf_get (swap_get ha1 hb1))) (TS.val (r_ia (i := q) (off' := q) Tryz.underlying42 Tryz.sizeOf3 T8 T4 rfl (by omega) (by omega)) (TS.nil (TL.s (r_st (F' := ovf ((o).set q bv) (fun _ => i64 0)) Tryz.sizeOf3 (ovf_upd (by rw [ho.len]; omega)) a2 T0 T1 (by omega)) (TL.x .u10 (EX.bnormal (EX.seq (CT.region (TL.val (n_add k 1 9223372036854775808 T2 .c) (TL.rm .h3 (TL.m m0 (TL.x (.hd .u1) (EX.perm p4 (EX.perm p4 (EX.perm p2 (EX.perm p4 (EX.perm p4 (EX.again ((k + 1, (e.set k bv).set (k + y101) av, o.set q bv)) (⟨show k + 1 ≤ is.length by omega, hE.swap ha1 hb1, by show ((e.set k bv).set (k + y101) av).length = _; rw [List.length_set, List.length_set]; exact hel, ho.put hE hJ.nodup hJ.lt hq ha1 hb1 (Nat.le_add_right _ _)⟩) (by show is.length - (k + 1) < is.length - k; omega) (.refl _) (.eq m0 (by first | rfl | (congr 1 <;> omega)) (.sl 3 8 rfl))))))))))))))))))))))
 refine CT.sub .u1 (CT.exit (EX.then_exit (EX.then_exit (EX.out (EX.q (TL.m m2 (TL.rm .h6 (TL.a m0 (TL.b (.hd .u1) (CT.ret ?_))))))))))
 obtain rfl : k = is.length := by omega
 exact EX.fold (A' := (slc 1 (.slice (some ⟨b89, 0, none⟩) nd.length nd.length) o.length (o.map i64))) a1 (ovf_done ho.len) (EX.perm p2 (EX.perm p3 (EX.perm p3 (EX.end_ (.inl rfl) (res1 Tryz.results61 m0) (fun _ hS => ⟨o, ho.len, ho.le, ho.done hE hM hel, fun i hi => ho.ones i (by rw [List.take_length]; exact hJ.need i (List.getElem?_eq_some_iff.1 hi).1 hi), ((((keep3b hS).perm p2).imp (Rdr_mono (by omega))).perm p2).perm p2⟩)))))
end Go.Eng
namespace Go.Infl
inductive RunX : List (Nat × Nat) → List Nat → Prop
 | nil : RunX [] []
 | snoc {sy : List (Nat × Nat)} {acc : List Nat} {k v : Nat} : RunX sy acc → k ≤ 18 → v < 2 ^ rnBits k → (k = 16 → acc ≠ []) → RunX (sy ++ [(k, v)]) (rnExp acc k v)
def symX (own : List Nat) (x : Nat × Nat) : List Bool := symB own x.1 ++ nbits (rnBits x.1) x.2
theorem RunX.toB {own : List Nat} {sy : List (Nat × Nat)} {acc : List Nat} (H : RunX sy acc) : (∀ x ∈ sy, LOk own x.1) → RunB own [] (sy.flatMap (symX own)) acc := by
 induction H with
 | nil => exact fun _ => .nil
 | @snoc sy acc k v _ _ hv h16 ih =>
  intro h
  have := (ih fun x hx => h x (List.mem_append_left _ hx)).snoc (h (k, v) (by simp)) hv h16
  rw [List.flatMap_append, List.flatMap_cons, List.flatMap_nil, List.append_nil]
  exact this
theorem RunX.le {sy : List (Nat × Nat)} {acc : List Nat} (H : RunX sy acc) : sy.length ≤ acc.length := by
 induction H with
 | nil => exact Nat.le_refl _
 | @snoc sy acc k v _ _ _ _ ih =>
  have := rnMany_pos k v
  rw [rnExp_length, List.length_append, List.length_singleton]; omega
theorem RunX.mem {sy : List (Nat × Nat)} {acc : List Nat} (H : RunX sy acc) : ∀ x ∈ sy, x.1 ≤ 18 ∧ x.2 < 2 ^ rnBits x.1 := by
 induction H with
 | nil => exact fun _ h => by cases h
 | snoc _ h1 h2 _ ih =>
  intro x hx
  rcases List.mem_append.1 hx with h | h
  ·
   exact ih x h
  rw [List.mem_singleton.1 h]; exact ⟨h1, h2⟩
theorem getD_get {l : List Nat} {i : Nat} (h : i < l.length) : l[i]? = some (l.getD i 0) := by rw [List.getD_eq_getElem?_getD, List.getElem?_eq_getElem h]; rfl
theorem take_add_rep {all : List Nat} {i x : Nat} : ∀ {m : Nat}, i + m ≤ all.length → (∀ t, t < m → all.getD (i + t) 0 = x) → all.take (i + m) = all.take i ++ List.replicate m x
 | 0, _, _ => by simp
 | m + 1, h, hr => by
  have ih := take_add_rep (m := m) (by omega) (fun t ht => hr t (by omega))
  rw [← Nat.add_assoc, List.take_add_one, ih, getD_get (by omega), hr m (by omega), List.replicate_succ', List.append_assoc]; rfl
theorem RunX.add {all : List Nat} {sy : List (Nat × Nat)} {i m k v x : Nat} (H : RunX sy (all.take i)) (hk : k ≤ 18) (hv : v < 2 ^ rnBits k) (h16 : k = 16 → 0 < i) (him : i + m ≤ all.length) (hr : ∀ t, t < m → all.getD (i + t) 0 = x)
 (hm : rnMany k v = m) (hx : rnVal (all.take i) k = x) : RunX (sy ++ [(k, v)]) (all.take (i + m)) := by
 have := H.snoc hk hv fun e => by
  intro h
  have := congrArg List.length h
  rw [List.length_take, List.length_nil] at this
  have := h16 e
  have := rnMany_pos k v
  omega
 unfold rnExp at this
 rw [hm, hx, ← take_add_rep him hr] at this
 exact this
theorem take_last {all : List Nat} {i : Nat} (h : 0 < i) (hi : i ≤ all.length) : (all.take i).getD ((all.take i).length - 1) 0 = all.getD (i - 1) 0 := by
 rw [List.length_take, Nat.min_eq_left hi, List.getD_eq_getElem?_getD, List.getD_eq_getElem?_getD, List.getElem?_take, if_pos (by omega)]
theorem rn_low {k : Nat} (h : k ≤ 15) : rnBits k = 0 := by unfold rnBits; rw [if_neg (by omega), if_neg (by omega), if_neg (by omega)]
theorem rnMany_low {k v : Nat} (h : k ≤ 15) : rnMany k v = 1 := by unfold rnMany; rw [if_neg (by omega), if_neg (by omega), if_neg (by omega)]
theorem rnVal_low {acc : List Nat} {k : Nat} (h : k ≤ 15) : rnVal acc k = k := by unfold rnVal; rw [if_neg (by omega), if_neg (by omega), if_neg (by omega)]
theorem len_uniq {n k v k' v' : Nat} (h : LenAt n k v) (h' : LenAt n k' v') : k = k' := by
 have hd : ∀ a, a < 29 → ∀ b, b < 29 → a < b → lenBase (257 + a) + 2 ^ lenExtra (257 + a) ≤ lenBase (257 + b) + (if a = 27 then 1 else 0) := by decide
 obtain ⟨h1, h2, h3, h4, h5⟩ := h
 obtain ⟨g1, g2, g3, g4, g5⟩ := h'
 rcases Nat.lt_trichotomy k k' with hl | hl | hl
 ·
  have e := hd (k - 257) (by omega) (k' - 257) (by omega) (by omega)
  rw [show 257 + (k - 257) = k by omega, show 257 + (k' - 257) = k' by omega] at e
  split at e
  ·
   obtain rfl : k = 284 := by omega
   have : lenExtra 284 = 5 := by decide
   rw [this] at h4 e
   omega
  omega
 ·
  exact hl
 have e := hd (k' - 257) (by omega) (k - 257) (by omega) (by omega)
 rw [show 257 + (k - 257) = k by omega, show 257 + (k' - 257) = k' by omega] at e
 split at e
 ·
  obtain rfl : k' = 284 := by omega
  have : lenExtra 284 = 5 := by decide
  rw [this] at g4 e
  omega
 omega
theorem dist_uniq {d k v k' v' : Nat} (h : DistAt d k v) (h' : DistAt d k' v') : k = k' := by
 have hd : ∀ a, a < 30 → ∀ b, b < 30 → a < b → distBase a + 2 ^ distExtra a ≤ distBase b := by decide
 obtain ⟨h1, h2, h3⟩ := h
 obtain ⟨g1, g2, g3⟩ := h'
 rcases Nat.lt_trichotomy k k' with hl | hl | hl
 ·
  have e := hd k (by omega) k' (by omega) hl; omega
 ·
  exact hl
 have e := hd k' (by omega) k (by omega) hl; omega
def NeedOf (l d : List Bool) : It → Prop
 | .lit b => l[b]? = some true
 | .mat n m => (∀ k v, LenAt n k v → l[k]? = some true) ∧ (∀ k v, DistAt m k v → d[k]? = some true)
theorem set_true {l : List Bool} {j k : Nat} (h : l[j]? = some true) : (l.set k true)[j]? = some true := by
 rw [List.getElem?_set]
 split
 ·
  split
  ·
   rfl
  rename_i h1 h2; subst h1; have := (List.getElem?_eq_some_iff.1 h).1; omega
 exact h
theorem set_self {l : List Bool} {k : Nat} (h : k < l.length) : (l.set k true)[k]? = some true := by rw [List.getElem?_set, if_pos rfl, if_pos h]
theorem NeedOf.setl {l d : List Bool} {k : Nat} {x : It} (h : NeedOf l d x) : NeedOf (l.set k true) d x := by
 cases x with
 | lit b => exact set_true h
 | mat n m => exact ⟨fun k v hk => set_true (h.1 k v hk), h.2⟩
theorem NeedOf.setd {l d : List Bool} {k : Nat} {x : It} (h : NeedOf l d x) : NeedOf l (d.set k true) x := by
 cases x with
 | lit b => exact h
 | mat n m => exact ⟨h.1, fun k v hk => set_true (h.2 k v hk)⟩
structure NeedI (its : List It) (k : Nat) (l d : List Bool) : Prop where
 ll : l.length = 286
 dl : d.length = 30
 eob : l[256]? = some true
 all : ∀ x ∈ its.take k, NeedOf l d x
theorem NeedI.lit {its : List It} {k b : Nat} {l d : List Bool} (H : NeedI its k l d) (hb : b < 256) (hx : its[k]? = some (.lit b)) : NeedI its (k + 1) (l.set b true) d := by
 refine ⟨by rw [List.length_set]; exact H.ll, H.dl, set_true H.eob, fun x hm => ?_⟩
 rw [List.take_add_one, hx] at hm
 rcases List.mem_append.1 hm with h | h
 ·
  exact (H.all x h).setl
 rw [List.mem_singleton.1 h]; exact set_self (by have := H.ll; omega)
theorem NeedI.mat {its : List It} {k n m k1 e1 k2 e2 : Nat} {l d : List Bool} (H : NeedI its k l d) (h1 : LenAt n k1 e1) (h2 : DistAt m k2 e2) (hx : its[k]? = some (.mat n m)) : NeedI its (k + 1) (l.set k1 true) (d.set k2 true) := by
 refine ⟨by rw [List.length_set]; exact H.ll, by rw [List.length_set]; exact H.dl, set_true H.eob, fun x hm => ?_⟩
 rw [List.take_add_one, hx] at hm
 rcases List.mem_append.1 hm with h | h
 ·
  exact (H.all x h).setl.setd
 rw [List.mem_singleton.1 h]
 refine ⟨fun k v hk => ?_, fun k v hk => ?_⟩
 ·
  rw [len_uniq hk h1]; exact set_self (by have := H.ll; have := h1.2.1; omega)
 rw [dist_uniq hk h2]; exact set_self (by have := H.dl; have := h2.1; omega)
end Go.Infl
namespace Go.Eng
open Go
section
variable {P : Program} {G : World} {ρ : Env} {n : Nat} {L : List HProp} {Q : Exit → Act → World → Prop} {ops : Array Oper} {rest : List Oper} {d : Nat} {op : Op} {ty : TypeId} {pos : String} {af : Array Edge}
theorem TS.gnu {tl : List Oper} {j g : Nat} {b want : Bool} (hb : (g, .bool b) ∈ ρ) (k : TS P Q ops tl rest ((d, undef) :: ρ) n G L) (hw : (b == want) = false := by rfl) (hj : (ops[j]?).bind (·.dst) = some g := by rfl) (hc : chk d n ρ = true := by rfl) :
 TS P Q ops tl (⟨some d, op, ty, pos, af, some (j, want)⟩ :: rest) ρ n G L := by
 intro w a hS ha
 refine wpStill_step fun K hK => ?_
 rw [wanted_of hj hb ha, hw, if_neg (by simp)]
 exact hK _ (k w _ hS (ha.put hc))
theorem TS.gu {tl : List Oper} {j g : Nat} {want : Bool} (hb : (g, undef) ∈ ρ) (k : TS P Q ops tl rest ((d, undef) :: ρ) n G L) (hj : (ops[j]?).bind (·.dst) = some g := by rfl) (hc : chk d n ρ = true := by rfl) :
 TS P Q ops tl (⟨some d, op, ty, pos, af, some (j, want)⟩ :: rest) ρ n G L := by
 intro w a hS ha
 refine wpStill_step fun K hK => ?_
 rw [wanted_undef hj hb ha, if_neg (by simp)]
 exact hK _ (k w _ hS (ha.put hc))
end
end Go.Eng
namespace Go.Eng
open Go Go.Proofs Go.Infl
def syV (x : Nat × Nat) : List Value := [i64 x.1, i64 x.2, i64 (rnBits x.1)]
def syC (l : List (Nat × Nat)) : List Value := l.flatMap syV
theorem syC_put {l : List (Nat × Nat)} {k v v' b : Nat} (hv : v' = v) (hb : b = rnBits k) : syC l ++ [i64 k, i64 v', i64 b] = syC (l ++ [(k, v)]) := by
 subst hv hb
 unfold syC
 rw [List.flatMap_append]; rfl
theorem syC_get {l : List (Nat × Nat)} {k i : Nat} {x : Nat × Nat} (hx : l[k]? = some x) (hi : i < 3) : (syC l)[k * 3 + i]? = (syV x)[i]? := by
 induction l generalizing k with
 | nil => simp at hx
 | cons y l ih =>
  have hy : (syV y).length = 3 := rfl
  unfold syC
  rw [List.flatMap_cons]
  cases k with
  | zero =>
   obtain rfl : y = x := by simpa using hx
   rw [List.getElem?_append_left (by omega)]; congr 1; omega
  | succ k =>
   rw [List.getElem?_append_right (by omega), hy, show (k + 1) * 3 + i - 3 = k * 3 + i by omega]
   exact ih (by simpa using hx)
theorem slc_take {ls : List Nat} {b c m : Nat} {F : Nat → Value} (hk : ls.length ≤ c) (hF : ∀ j x, (ls.map i64)[j]? = some x → F j = x) (hm : m ≤ ls.length) : ∀ h, Eng.blk b c F h → Eng.slc 1 (.slice (some ⟨b, 0, none⟩) m c) (ls.take m).length ((ls.take m).map i64) h := by
 have e : (ls.take m).length = m := by rw [List.length_take, Nat.min_eq_left hm]
 intro h hh
 rw [e]
 refine mk_slc1 (by rw [List.length_map, e]) (by omega) (fun j x hj => hF j x ?_) h hh
 rw [List.getElem?_map, List.getElem?_take] at hj
 rw [List.getElem?_map]
 split at hj
 ·
  exact hj
 cases hj
theorem t82 (r N : Nat) (va : Value) (all : List Nat) (h15 : ∀ x ∈ all, x ≤ 15) (hal : all.length ≤ 400) (hN : N + 2000 < 1099511627000) {G : World} {R : List HProp} {w : World} (hS : Sat G w (Rdr G r (N) :: slc 1 va all.length (all.map i64) :: R)) :
 CallsR Tryz.prog 82 #[(pt r 0), va] w (fun v w' => ∃ sy : List (Nat × Nat), RunX sy all ∧ Sat G w' (slc 3 v sy.length (syC sy) :: slc 1 va all.length (all.map i64) :: Rdr G r (N + 3 * all.length) :: R)) := by
 refine calls_in (n := 151) [(0, (pt r 0)), (1, va)] Tryz.func82 rfl rfl hS args2 ?_
 refine CT.q (TL.val (r_asg .c) (TL.q (TL.val (r_asg .c) (TL.e (CT.seq (CT.q (TL.val (r_asg .c) (TL.e (CT.block (CT.nilslc 3 ?_))))))))))
 refine CT.fold (A' := (Rdr G r (N + 3 * 0))) a1 (Rdr_mono (by omega)) (CT.perm p1 (CT.perm p2 (CT.perm p2 (CT.loop (X := Nat × Value × List (Nat × Nat)) (fun gx => [(6, (i64 gx.1)), (5, gx.2.1), (4, (.slice none 0 0)), (0, (pt r 0)), (1, va)]) (fun gx => (slc 3 gx.2.1 ((gx.2.2).length) (syC gx.2.2)) :: slc 1 va all.length (all.map i64) :: Rdr G r (N + 3 * gx.1) :: R) (fun gx => gx.1 ≤ all.length ∧ RunX gx.2.2 (all.take gx.1)) (fun gx => all.length - gx.1) ((0, (.slice none 0 0), ([] : List (Nat × Nat)))) (⟨Nat.zero_le _, .nil⟩) (.refl _) (.sl 0 5 rfl) ?_))))
 rintro ⟨i, v, sy⟩ ⟨hI1, hI2⟩
 replace hI1 : i ≤ all.length := hI1
 replace hI2 : RunX sy (all.take i) := hI2
 have hsl := hI2.le
 rw [List.length_take, Nat.min_eq_left hI1] at hsl
 refine CT.seq (CT.q (TL.m m0 (TL.m m5 (TL.val (r_lens Tryz.underlying42 T0 m1) (TL.val (n_lss i all.length T2 T0) (TL.b (.hd .u3) (CT.ifd m0 (fun c15 => ?_) (fun c15 => ?_))))))))
 ·
  refine CT.z (EX.seq (CT.block (CT.q (TL.val (r_asg .c) (TL.e (CT.cut (X := Nat) (fun gx => [(7, (i64 gx)), (6, (i64 i)), (5, v), (4, (.slice none 0 0)), (0, (pt r 0)), (1, va)]) (fun gx => (slc 3 v ((sy).length) (syC sy)) :: slc 1 va all.length (all.map i64) :: Rdr G r (N + 3 * i) :: R) (fun gx => 1 ≤ gx ∧ i + gx ≤ all.length ∧ ∀ t, t < gx → all.getD (i + t) 0 = all.getD i 0) ?_ ?_))))))
  ·
   refine CT.block (CT.loop (X := Nat) (fun gx => [(7, (i64 gx)), (6, (i64 i)), (5, v), (4, (.slice none 0 0)), (0, (pt r 0)), (1, va)]) (fun gx => (slc 3 v ((sy).length) (syC sy)) :: slc 1 va all.length (all.map i64) :: Rdr G r (N + 3 * i) :: R) (fun gx => 1 ≤ gx ∧ i + gx ≤ all.length ∧ ∀ t, t < gx → all.getD (i + t) 0 = all.getD i 0) (fun gx => all.length - (i + gx)) 1 (⟨Nat.le_refl _, by omega, fun t ht => by obtain rfl : t = 0 := (by omega); rfl⟩) (.refl _) (.sl 0 6 rfl) ?_)
   rintro n ⟨hn1, hn2, hn3⟩
   refine CT.seq (CT.seq (CT.peek m1 (by omega) ?_))
   intro pa pa_c pa_v pa_k pa_l
   refine CT.still fm (by kernel_rfl) ?_
   refine TS.m m1 (TS.m m1 (TS.val (n_add i n 9223372036854775808 T1 T0) (TS.m m8 (TS.val (r_lens Tryz.underlying42 T0 m1) (TS.val (n_lss ((i + n)) all.length T2 T0) (TS.m m0 ?_))))))
   by_cases g22 : (i + n) < all.length
   ·
    refine TS.sub (ρ' := [(22, (.bool true)), (21, (.bool true)), (20, (i64 all.length)), (19, va), (18, (i64 (i + n))), (17, (i64 n)), (16, (i64 i)), (7, (i64 n)), (6, (i64 i)), (5, v), (4, (.slice none 0 0)), (0, (pt r 0)), (1, va)]) (.eq m0 (congrArg Value.bool (decide_eq_true g22)) (.eq m1 (congrArg Value.bool (decide_eq_true g22)) (.sl 2 11 rfl))) (TS.gv m0 (r_move T12) (TS.gv m1 (r_move T9) (TS.gv m2 (r_move T9) (TS.gv m3 (n_add i n 9223372036854775808 T1 T0) (TS.gv m4 (r_ia (i := (i + n)) (off' := (i + n)) Tryz.underlying42 Tryz.sizeOf3 (.te m3 pa_v) T0 rfl (by omega) (by omega)) (TS.gv m5 (r_lds (u := (i64 (all.getD ((i + n)) 0))) Tryz.isAgg3 m1 pa_v T0 (by rw [List.getElem?_map, getD_get (by omega)]; rfl)) ?_))))))
    refine TS.gv m6 (r_move T18) (TS.gv m7 (r_move T15) (TS.gv m8 (r_ia (i := i) (off' := i) Tryz.underlying42 Tryz.sizeOf3 (.te m1 pa_v) T0 rfl (by omega) (by omega)) (TS.gv m9 (r_lds (u := (i64 (all.getD i 0))) Tryz.isAgg3 m1 pa_v T0 (by rw [List.getElem?_map, getD_get (by omega)]; rfl)) ?_)))
    refine TS.gv m10 (n_eql ((all.getD ((i + n)) 0)) ((all.getD i 0)) T4 T0) (TS.val (r_pickt T11 T0) (TS.nil (TL.b (.hd .u18) (CT.ifd m0 (fun c34 => ?_) (fun c34 => ?_)))))
    ·
     exact CT.z (EX.seq (CT.block (CT.region (TL.m m0 (TL.val (n_add n 1 9223372036854775808 T0 .c) (TL.rm .h2 (TL.a m0 (TL.x (.hd .u2) (EX.bnormal (EX.again (n + 1) (⟨by omega, by omega, fun t ht => by rcases Nat.lt_or_ge t n with h | h; exact hn3 t h; obtain rfl : t = n := (by omega); exact c34⟩) (by omega) (.refl _) (.eq m0 (by first | rfl | (congr 1 <;> omega) | (refine congrArg Value.bool ?_; simp [*]; done) | (exact congrArg Value.bool (decide_eq_true (by omega)).symm) | (exact congrArg Value.bool (decide_eq_false (by omega)).symm) | (refine congrArg Value.bool (decide_eq_decide.2 ?_); omega)) (.sl 1 5 rfl))))))))))))
    exact CT.sub .u1 (CT.exit (EX.then_exit (EX.then_exit (EX.out (EX.meet n (⟨hn1, hn2, hn3⟩) (.refl _) (.sl 0 6 rfl))))))
   refine TS.sub (ρ' := [(22, (.bool false)), (21, (.bool false)), (20, (i64 all.length)), (19, va), (18, (i64 (i + n))), (17, (i64 n)), (16, (i64 i)), (7, (i64 n)), (6, (i64 i)), (5, v), (4, (.slice none 0 0)), (0, (pt r 0)), (1, va)]) (.eq m0 (congrArg Value.bool (decide_eq_false g22)) (.eq m1 (congrArg Value.bool (decide_eq_false g22)) (.sl 2 11 rfl))) (TS.gn m0 (TS.gn m0 (TS.gn m0 (TS.gn m0 (TS.gn m0 (TS.gn m0 (TS.gn m0 (TS.gn m0 (TS.gn m0 (TS.gn m0 (TS.gn m0 (TS.val (r_pickf T0 .c) (TS.nil (TL.b (.hd .u7) (CT.iff_ m0 ?_)))))))))))))))
   exact CT.sub .u1 (CT.exit (EX.then_exit (EX.then_exit (EX.out (EX.meet n (⟨hn1, hn2, hn3⟩) (.refl _) (.sl 0 6 rfl))))))
  rintro n ⟨hn1, hn2, hn3⟩
  refine CT.q (TL.m m4 (TL.perm p2 (TL.call (r_call ce_39 (.cons T0 (.cons .c .nil))) (fun w hS => t39 r 4 (N + 3 * i) (by omega) (by omega) hS) ?_)))
  rintro _ w38 ⟨y38, rfl, y38_l, hS⟩
  refine TW.at hS (TL.a m0 (TL.b (.hd .u2) (CT.block (CT.cut (X := Unit) (fun gx => [(49, (.bool (decide (0 < y38 ∧ all.getD i 0 = 0 ∧ 11 ≤ n)))), (8, (i64 y38)), (7, (i64 n)), (6, (i64 i)), (5, v), (4, (.slice none 0 0)), (0, (pt r 0)), (1, va)]) (fun gx => (slc 3 v ((sy).length) (syC sy)) :: slc 1 va all.length (all.map i64) :: Rdr G r (N + 3 * i + 1) :: R) (fun gx => True) ?_ ?_))))
  ·
   refine CT.peek m2 (by omega) ?_
   intro pb pb_c pb_v pb_k pb_l
   refine CT.region (TL.m m0 (TL.val (n_gtr y38 0 T0 .c) (TL.m m0 ?_)))
   by_cases g52 : 0 < y38
   ·
    refine TL.sub (.eq m0 (congrArg Value.bool (decide_eq_true g52)) (.eq m1 (congrArg Value.bool (decide_eq_true g52)) (.cons m2 (.cons m3 (.cons m4 (.cons m5 (.cons m6 (.cons m7 (.cons m8 (.cons m9 .nil)))))))))) (TL.gv m0 (r_move T9) (TL.gv m1 (r_move T6) (TL.gv m2 (r_ia (i := i) (off' := i) Tryz.underlying42 Tryz.sizeOf3 (.te m1 pb_v) T0 rfl (by omega) (by omega)) (TL.gv m3 (r_lds (u := (i64 (all.getD i 0))) Tryz.isAgg3 m2 pb_v T0 (by rw [List.getElem?_map, getD_get (by omega)]; rfl)) ?_))))
    refine TL.gv m4 (n_eql ((all.getD i 0)) 0 T0 .c) (TL.val (r_pickt T5 T0) (TL.m m0 ?_))
    by_cases g59 : (all.getD i 0) = 0
    ·
     exact TL.sub (.eq m0 (congrArg Value.bool (decide_eq_true g59)) (.eq m1 (congrArg Value.bool (decide_eq_true g59)) (.eq m2 (congrArg Value.bool (decide_eq_true g59)) (.cons m3 (.cons m4 (.cons m5 (.cons m6 (.cons m7 (.cons m8 (.cons m9 (.cons m10 (.cons m11 (.cons m12 (.cons m13 (.cons m14 (.cons m15 (.cons m16 .nil))))))))))))))))) (TL.gv m0 (r_move T11) (TL.gv m1 (n_geq n 11 T0 .c) (TL.val (r_pickt T2 T0) (TL.a m0 (TL.x (.hd .u13) (EX.perm p2 (EX.perm p2 (EX.meet () trivial (.refl _) (.eq m0 (by first | rfl | (congr 1 <;> omega) | (refine congrArg Value.bool ?_; simp [*]; done) | (exact congrArg Value.bool (decide_eq_true (by omega)).symm) | (exact congrArg Value.bool (decide_eq_false (by omega)).symm) | (refine congrArg Value.bool (decide_eq_decide.2 ?_); omega)) (.sl 1 7 rfl))))))))))
    exact TL.sub (.eq m0 (congrArg Value.bool (decide_eq_false g59)) (.eq m1 (congrArg Value.bool (decide_eq_false g59)) (.eq m2 (congrArg Value.bool (decide_eq_false g59)) (.cons m3 (.cons m4 (.cons m5 (.cons m6 (.cons m7 (.cons m8 (.cons m9 (.cons m10 (.cons m11 (.cons m12 (.cons m13 (.cons m14 (.cons m15 (.cons m16 .nil))))))))))))))))) (TL.gn m0 (TL.gn m0 (TL.val (r_pickf T0 .c) (TL.a m0 (TL.x (.hd .u11) (EX.perm p2 (EX.perm p2 (EX.meet () trivial (.refl _) (.eq m0 (by first | rfl | (congr 1 <;> omega) | (refine congrArg Value.bool ?_; simp [*]; done) | (exact congrArg Value.bool (decide_eq_true (by omega)).symm) | (exact congrArg Value.bool (decide_eq_false (by omega)).symm) | (refine congrArg Value.bool (decide_eq_decide.2 ?_); omega)) (.sl 1 7 rfl))))))))))
   exact TL.sub (.eq m0 (congrArg Value.bool (decide_eq_false g52)) (.eq m1 (congrArg Value.bool (decide_eq_false g52)) (.cons m2 (.cons m3 (.cons m4 (.cons m5 (.cons m6 (.cons m7 (.cons m8 (.cons m9 .nil)))))))))) (TL.gn m0 (TL.gn m0 (TL.gn m0 (TL.gn m0 (TL.gn m0 (TL.val (r_pickf T0 .c) (TL.m m0 (TL.gn m0 (TL.gn m0 (TL.val (r_pickf T0 .c) (TL.a m0 (TL.x (.hd .u6) (EX.perm p2 (EX.perm p2 (EX.meet () trivial (.refl _) (.eq m0 (by first | rfl | (congr 1 <;> omega) | (refine congrArg Value.bool ?_; simp [*]; done) | (exact congrArg Value.bool (decide_eq_true (by omega)).symm) | (exact congrArg Value.bool (decide_eq_false (by omega)).symm) | (refine congrArg Value.bool (decide_eq_decide.2 ?_); omega)) (.sl 1 7 rfl)))))))))))))))))
  rintro ⟨⟩ -
  refine CT.ifd m0 (fun c49 => ?_) (fun c49 => ?_)
  ·
   obtain ⟨hy0, hz0, hn11⟩ := c49
   refine CT.y (TL.m m5 (TL.m m2 (TL.val (n_min n 138 T0 .c rfl rfl) (TL.val (n_sub ((min n 138)) 10 9223372036854775808 T0 .c) (TL.perm p2 (TL.call (r_call ce_39 (.cons T3 (.cons T0 .nil))) (fun w hS => t39 r (((min n 138) - 10)) (N + 3 * i + 1) (by omega) (by omega) hS) ?_))))))
   rintro _ w67 ⟨y67, rfl, y67_l, hS⟩
   refine TW.at hS (TL.val (n_add 11 y67 9223372036854775808 .c T0) (TL.a m0 (TL.r (.hd .u6) (TL.m m4 (TL.m m1 (TL.val (n_sub ((11 + y67)) 11 9223372036854775808 T0 .c) (TL.val (r_build (v := (.agg #[(.int .i64 18), (i64 ((11 + y67) - 11)), (.int .i64 7)])) (.cons .c (.cons T0 (.cons .c .nil))) (fun _ => by kernel_rfl)) (TL.w (r_buildSlice (k := 1) (e := 120) (cs := #[(.int .i64 18), (i64 ((11 + y67) - 11)), (.int .i64 7)]) (F := lst [(.int .i64 18), (i64 ((11 + y67) - 11)), (.int .i64 7)]) (.cons T0 .nil) (fun _ => by kernel_rfl) rfl lst_ok) ?_))))))))
   rintro _ w73 ⟨b73, rfl, hS⟩
   refine TW.at hS (TL.perm p2 (TL.w (r_append (j := 1) (k := (sy).length) (ds := [(.int .i64 18), (i64 ((11 + y67) - 11)), (.int .i64 7)]) el_117 Tryz.underlying117 T4 T0 ⟨_, _, rfl⟩ (rdsl m1 rfl rfl) ones3 (by omega) (by omega)) ?_))
   rintro v74 w74 hS
   have ho74 := hS.slc_one
   refine TW.at hS (TL.fold (A' := (slc 3 v74 ((sy ++ [(18, y67)]).length) (syC (sy ++ [(18, y67)])))) a0 (slc_eq (by rw [List.length_append, List.length_singleton]) (syC_put (by omega) rfl)) ?_)
   refine TL.rm .h10 (TL.a m0 (TL.b (.hd .u6) (CT.region (TL.m m4 (TL.m m2 (TL.val (n_add i ((11 + y67)) 9223372036854775808 T1 T0) (TL.rm .h7 (TL.a m0 (TL.x (.hd .u3) (EX.bnormal (EX.bnormal (EX.fold (A' := (Rdr G r (N + 3 * (i + (11 + y67))))) a2 (Rdr_mono (by omega)) (EX.perm p1 (EX.conv (fun _ h => h.tail) ?_))))))))))))))
   exact EX.perm p1 (EX.perm p2 (EX.perm p2 (EX.again ((i + (11 + y67), v74, sy ++ [(18, y67)])) (⟨show i + (11 + y67) ≤ all.length by omega, hI2.add (k := 18) (v := y67) (m := (11 + y67)) (by decide) (by show y67 < 128; omega) (fun h => absurd h (by decide)) (by omega) (fun t ht => (hn3 t (by omega)).trans hz0) rfl rfl⟩) (by show all.length - (i + (11 + y67)) < all.length - i; omega) (.refl _) (.eq m0 (by first | rfl | (congr 1 <;> omega) | (refine congrArg Value.bool ?_; simp [*]; done) | (exact congrArg Value.bool (decide_eq_true (by omega)).symm) | (exact congrArg Value.bool (decide_eq_false (by omega)).symm) | (refine congrArg Value.bool (decide_eq_decide.2 ?_); omega)) (.cons m1 (.sl 5 3 rfl))))))
  refine CT.sub .u1 (CT.cut (X := Unit) (fun gx => [(78, (.bool (decide (0 < y38 ∧ all.getD i 0 = 0 ∧ 3 ≤ n)))), (8, (i64 y38)), (7, (i64 n)), (6, (i64 i)), (5, v), (4, (.slice none 0 0)), (0, (pt r 0)), (1, va)]) (fun gx => (slc 3 v ((sy).length) (syC sy)) :: slc 1 va all.length (all.map i64) :: Rdr G r (N + 3 * i + 1) :: R) (fun gx => True) ?_ ?_)
  ·
   refine CT.peek m1 (by omega) ?_
   intro pc pc_c pc_v pc_k pc_l
   refine CT.region (TL.m m0 (TL.val (n_gtr y38 0 T0 .c) (TL.m m0 ?_)))
   by_cases g81 : 0 < y38
   ·
    refine TL.sub (.eq m0 (congrArg Value.bool (decide_eq_true g81)) (.eq m1 (congrArg Value.bool (decide_eq_true g81)) (.cons m2 (.cons m3 (.cons m4 (.cons m5 (.cons m6 (.cons m7 (.cons m8 (.cons m9 .nil)))))))))) (TL.gv m0 (r_move T9) (TL.gv m1 (r_move T6) (TL.gv m2 (r_ia (i := i) (off' := i) Tryz.underlying42 Tryz.sizeOf3 (.te m1 pc_v) T0 rfl (by omega) (by omega)) (TL.gv m3 (r_lds (u := (i64 (all.getD i 0))) Tryz.isAgg3 m1 pc_v T0 (by rw [List.getElem?_map, getD_get (by omega)]; rfl)) ?_))))
    refine TL.gv m4 (n_eql ((all.getD i 0)) 0 T0 .c) (TL.val (r_pickt T5 T0) (TL.m m0 ?_))
    by_cases g88 : (all.getD i 0) = 0
    ·
     exact TL.sub (.eq m0 (congrArg Value.bool (decide_eq_true g88)) (.eq m1 (congrArg Value.bool (decide_eq_true g88)) (.eq m2 (congrArg Value.bool (decide_eq_true g88)) (.cons m3 (.cons m4 (.cons m5 (.cons m6 (.cons m7 (.cons m8 (.cons m9 (.cons m10 (.cons m11 (.cons m12 (.cons m13 (.cons m14 (.cons m15 (.cons m16 .nil))))))))))))))))) (TL.gv m0 (r_move T11) (TL.gv m1 (n_geq n 3 T0 .c) (TL.val (r_pickt T2 T0) (TL.a m0 (TL.x (.hd .u13) (EX.meet () trivial (.refl _) (.eq m0 (by first | rfl | (congr 1 <;> omega) | (refine congrArg Value.bool ?_; simp [*]; done) | (exact congrArg Value.bool (decide_eq_true (by omega)).symm) | (exact congrArg Value.bool (decide_eq_false (by omega)).symm) | (refine congrArg Value.bool (decide_eq_decide.2 ?_); omega)) (.sl 1 7 rfl))))))))
    exact TL.sub (.eq m0 (congrArg Value.bool (decide_eq_false g88)) (.eq m1 (congrArg Value.bool (decide_eq_false g88)) (.eq m2 (congrArg Value.bool (decide_eq_false g88)) (.cons m3 (.cons m4 (.cons m5 (.cons m6 (.cons m7 (.cons m8 (.cons m9 (.cons m10 (.cons m11 (.cons m12 (.cons m13 (.cons m14 (.cons m15 (.cons m16 .nil))))))))))))))))) (TL.gn m0 (TL.gn m0 (TL.val (r_pickf T0 .c) (TL.a m0 (TL.x (.hd .u11) (EX.meet () trivial (.refl _) (.eq m0 (by first | rfl | (congr 1 <;> omega) | (refine congrArg Value.bool ?_; simp [*]; done) | (exact congrArg Value.bool (decide_eq_true (by omega)).symm) | (exact congrArg Value.bool (decide_eq_false (by omega)).symm) | (refine congrArg Value.bool (decide_eq_decide.2 ?_); omega)) (.sl 1 7 rfl))))))))
   exact TL.sub (.eq m0 (congrArg Value.bool (decide_eq_false g81)) (.eq m1 (congrArg Value.bool (decide_eq_false g81)) (.cons m2 (.cons m3 (.cons m4 (.cons m5 (.cons m6 (.cons m7 (.cons m8 (.cons m9 .nil)))))))))) (TL.gn m0 (TL.gn m0 (TL.gn m0 (TL.gn m0 (TL.gn m0 (TL.val (r_pickf T0 .c) (TL.m m0 (TL.gn m0 (TL.gn m0 (TL.val (r_pickf T0 .c) (TL.a m0 (TL.x (.hd .u6) (EX.meet () trivial (.refl _) (.eq m0 (by first | rfl | (congr 1 <;> omega) | (refine congrArg Value.bool ?_; simp [*]; done) | (exact congrArg Value.bool (decide_eq_true (by omega)).symm) | (exact congrArg Value.bool (decide_eq_false (by omega)).symm) | (refine congrArg Value.bool (decide_eq_decide.2 ?_); omega)) (.sl 1 7 rfl)))))))))))))))
  rintro ⟨⟩ -
  refine CT.ifd m0 (fun c78 => ?_) (fun c78 => ?_)
  ·
   obtain ⟨hy0, hz0, hn11⟩ := c78
   refine CT.y (TL.m m5 (TL.m m2 (TL.val (n_min n 10 T0 .c rfl rfl) (TL.val (n_sub ((min n 10)) 2 9223372036854775808 T0 .c) (TL.perm p2 (TL.call (r_call ce_39 (.cons T3 (.cons T0 .nil))) (fun w hS => t39 r (((min n 10) - 2)) (N + 3 * i + 1) (by omega) (by omega) hS) ?_))))))
   rintro _ w96 ⟨y96, rfl, y96_l, hS⟩
   refine TW.at hS (TL.val (n_add 3 y96 9223372036854775808 .c T0) (TL.a m0 (TL.r (.hd .u6) (TL.m m4 (TL.m m1 (TL.val (n_sub ((3 + y96)) 3 9223372036854775808 T0 .c) (TL.val (r_build (v := (.agg #[(.int .i64 17), (i64 ((3 + y96) - 3)), (.int .i64 3)])) (.cons .c (.cons T0 (.cons .c .nil))) (fun _ => by kernel_rfl)) (TL.w (r_buildSlice (k := 1) (e := 120) (cs := #[(.int .i64 17), (i64 ((3 + y96) - 3)), (.int .i64 3)]) (F := lst [(.int .i64 17), (i64 ((3 + y96) - 3)), (.int .i64 3)]) (.cons T0 .nil) (fun _ => by kernel_rfl) rfl lst_ok) ?_))))))))
   rintro _ w102 ⟨b102, rfl, hS⟩
   refine TW.at hS (TL.perm p2 (TL.w (r_append (j := 1) (k := (sy).length) (ds := [(.int .i64 17), (i64 ((3 + y96) - 3)), (.int .i64 3)]) el_117 Tryz.underlying117 T4 T0 ⟨_, _, rfl⟩ (rdsl m1 rfl rfl) ones3 (by omega) (by omega)) ?_))
   rintro v103 w103 hS
   have ho103 := hS.slc_one
   refine TW.at hS (TL.fold (A' := (slc 3 v103 ((sy ++ [(17, y96)]).length) (syC (sy ++ [(17, y96)])))) a0 (slc_eq (by rw [List.length_append, List.length_singleton]) (syC_put (by omega) rfl)) ?_)
   refine TL.rm .h10 (TL.a m0 (TL.b (.hd .u6) (CT.region (TL.m m4 (TL.m m2 (TL.val (n_add i ((3 + y96)) 9223372036854775808 T1 T0) (TL.rm .h7 (TL.a m0 (TL.x (.hd .u3) (EX.bnormal (EX.bnormal (EX.fold (A' := (Rdr G r (N + 3 * (i + (3 + y96))))) a2 (Rdr_mono (by omega)) (EX.perm p1 (EX.conv (fun _ h => h.tail) ?_))))))))))))))
   exact EX.perm p1 (EX.perm p2 (EX.perm p2 (EX.again ((i + (3 + y96), v103, sy ++ [(17, y96)])) (⟨show i + (3 + y96) ≤ all.length by omega, hI2.add (k := 17) (v := y96) (m := (3 + y96)) (by decide) (by show y96 < 8; omega) (fun h => absurd h (by decide)) (by omega) (fun t ht => (hn3 t (by omega)).trans hz0) rfl rfl⟩) (by show all.length - (i + (3 + y96)) < all.length - i; omega) (.refl _) (.eq m0 (by first | rfl | (congr 1 <;> omega) | (refine congrArg Value.bool ?_; simp [*]; done) | (exact congrArg Value.bool (decide_eq_true (by omega)).symm) | (exact congrArg Value.bool (decide_eq_false (by omega)).symm) | (refine congrArg Value.bool (decide_eq_decide.2 ?_); omega)) (.cons m1 (.sl 5 3 rfl))))))
  refine CT.sub .u1 (CT.cut (X := Bool) (fun gx => [(107, (.bool gx)), (8, (i64 y38)), (7, (i64 n)), (6, (i64 i)), (5, v), (4, (.slice none 0 0)), (0, (pt r 0)), (1, va)]) (fun gx => (slc 3 v ((sy).length) (syC sy)) :: slc 1 va all.length (all.map i64) :: Rdr G r (N + 3 * i + 1 + 1) :: R) (fun gx => gx = true → 0 < i ∧ all.getD (i - 1) 0 = all.getD i 0 ∧ 3 ≤ n) ?_ ?_)
  ·
   refine CT.peek m1 (by omega) ?_
   intro pd pd_c pd_v pd_k pd_l
   refine CT.draw 23 fm (by kernel_rfl) ?_
   refine TS.m m2 (TS.val (n_gtr i 0 T0 .c) (TS.m m0 ?_))
   by_cases g110 : 0 < i
   ·
    refine TS.sub (ρ' := [(110, (.bool true)), (109, (.bool true)), (108, (i64 i)), (8, (i64 y38)), (7, (i64 n)), (6, (i64 i)), (5, v), (4, (.slice none 0 0)), (0, (pt r 0)), (1, va)]) (.eq m0 (congrArg Value.bool (decide_eq_true g110)) (.eq m1 (congrArg Value.bool (decide_eq_true g110)) (.sl 2 8 rfl))) (TS.gv m0 (r_move T9) (TS.gv m1 (r_move T6) (TS.gv m2 (n_sub i 1 9223372036854775808 T0 .c) (TS.gv m3 (r_ia (i := (i - 1)) (off' := (i - 1)) Tryz.underlying42 Tryz.sizeOf3 (.te m2 pd_v) T0 rfl (by omega) (by omega)) (TS.gv m4 (r_lds (u := (i64 (all.getD ((i - 1)) 0))) Tryz.isAgg3 m1 pd_v T0 (by rw [List.getElem?_map, getD_get (by omega)]; rfl)) ?_)))))
    refine TS.gv m5 (r_move T14) (TS.gv m6 (r_move T11) (TS.gv m7 (r_ia (i := i) (off' := i) Tryz.underlying42 Tryz.sizeOf3 (.te m1 pd_v) T0 rfl (by omega) (by omega)) (TS.gv m8 (r_lds (u := (i64 (all.getD i 0))) Tryz.isAgg3 m1 pd_v T0 (by rw [List.getElem?_map, getD_get (by omega)]; rfl)) ?_)))
    refine TS.gv m9 (n_eql ((all.getD ((i - 1)) 0)) ((all.getD i 0)) T4 T0) (TS.val (r_pickt T10 T0) (TS.m m0 ?_))
    by_cases g122 : (all.getD ((i - 1)) 0) = (all.getD i 0)
    ·
     refine TS.sub (ρ' := [(122, (.bool true)), (121, (.bool true)), (120, (.bool true)), (119, (i64 (all.getD i 0))), (118, (pt pd i)), (117, (i64 i)), (116, va), (115, (i64 (all.getD ((i - 1)) 0))), (114, (.pointer (some ⟨pd, (i - 1), none⟩))), (113, (i64 (i - 1))), (112, (i64 i)), (111, va), (110, (.bool true)), (109, (.bool true)), (108, (i64 i)), (8, (i64 y38)), (7, (i64 n)), (6, (i64 i)), (5, v), (4, (.slice none 0 0)), (0, (pt r 0)), (1, va)]) (.eq m0 (congrArg Value.bool (decide_eq_true g122)) (.eq m1 (congrArg Value.bool (decide_eq_true g122)) (.eq m2 (congrArg Value.bool (decide_eq_true g122)) (.sl 3 19 rfl)))) (TS.gv m0 (r_move T16) (TS.gv m1 (n_geq n 3 T0 .c) (TS.val (r_pickt T2 T0) (TS.m m0 ?_))))
     by_cases g126 : 3 ≤ n
     ·
      refine TS.sub (ρ' := [(126, (.bool true)), (125, (.bool true)), (124, (.bool true)), (123, (i64 n)), (122, (.bool true)), (121, (.bool true)), (120, (.bool true)), (119, (i64 (all.getD i 0))), (118, (pt pd i)), (117, (i64 i)), (116, va), (115, (i64 (all.getD ((i - 1)) 0))), (114, (.pointer (some ⟨pd, (i - 1), none⟩))), (113, (i64 (i - 1))), (112, (i64 i)), (111, va), (110, (.bool true)), (109, (.bool true)), (108, (i64 i)), (8, (i64 y38)), (7, (i64 n)), (6, (i64 i)), (5, v), (4, (.slice none 0 0)), (0, (pt r 0)), (1, va)]) (.eq m0 (congrArg Value.bool (decide_eq_true g126)) (.eq m1 (congrArg Value.bool (decide_eq_true g126)) (.eq m2 (congrArg Value.bool (decide_eq_true g126)) (.sl 3 23 rfl)))) (TS.gv m0 (r_move T19) (TS.gv m1 (n_gtr y38 0 T0 .c) (TS.gv m2 (r_move T0) ?_)))
      by_cases g129 : 0 < y38
      ·
       exact TS.sub (ρ' := [(129, (.bool true)), (128, (.bool true)), (127, (i64 y38)), (126, (.bool true)), (125, (.bool true)), (124, (.bool true)), (123, (i64 n)), (122, (.bool true)), (121, (.bool true)), (120, (.bool true)), (119, (i64 (all.getD i 0))), (118, (pt pd i)), (117, (i64 i)), (116, va), (115, (i64 (all.getD ((i - 1)) 0))), (114, (.pointer (some ⟨pd, (i - 1), none⟩))), (113, (i64 (i - 1))), (112, (i64 i)), (111, va), (110, (.bool true)), (109, (.bool true)), (108, (i64 i)), (8, (i64 y38)), (7, (i64 n)), (6, (i64 i)), (5, v), (4, (.slice none 0 0)), (0, (pt r 0)), (1, va)]) (.eq m0 (congrArg Value.bool (decide_eq_true g129)) (.eq m1 (congrArg Value.bool (decide_eq_true g129)) (.sl 2 27 rfl))) (TS.gn m0 (TS.nil (TL.gn m0 (TL.gn m0 (TL.gv m3 (r_pickt T0 .c) (TL.val (r_pickt T4 T0) (TL.a m0 (TL.x (.hd .u24) (EX.fold (A' := (Rdr G r (N + 3 * i + 1 + 1))) a2 (Rdr_mono (by omega)) (EX.meet true (fun h => by first | exact absurd h (by decide) | (refine ⟨?_, ?_, ?_⟩ <;> first | assumption | omega)) (.refl _) (.sl 0 8 rfl)))))))))))
      refine TS.sub (ρ' := [(129, (.bool false)), (128, (.bool false)), (127, (i64 y38)), (126, (.bool true)), (125, (.bool true)), (124, (.bool true)), (123, (i64 n)), (122, (.bool true)), (121, (.bool true)), (120, (.bool true)), (119, (i64 (all.getD i 0))), (118, (pt pd i)), (117, (i64 i)), (116, va), (115, (i64 (all.getD ((i - 1)) 0))), (114, (.pointer (some ⟨pd, (i - 1), none⟩))), (113, (i64 (i - 1))), (112, (i64 i)), (111, va), (110, (.bool true)), (109, (.bool true)), (108, (i64 i)), (8, (i64 y38)), (7, (i64 n)), (6, (i64 i)), (5, v), (4, (.slice none 0 0)), (0, (pt r 0)), (1, va)]) (.eq m0 (congrArg Value.bool (decide_eq_false g129)) (.eq m1 (congrArg Value.bool (decide_eq_false g129)) (.sl 2 27 rfl))) (TS.gv m0 (r_move (.t m27)) (TS.nil (TL.perm p2 (TL.gcall m1 (r_call ce_39 (.cons T0 (.cons .c .nil))) (fun w hS => t39 r 2 (N + 3 * i + 1) (by omega) (by omega) hS) ?_))))
      rintro _ w131 ⟨y131, rfl, y131_l, hS⟩
      exact TW.at hS (TL.gv m2 (n_eql y131 0 T0 .c) (TL.gv m6 (r_pickf T3 T0) (TL.val (r_pickt T7 T0) (TL.a m0 (TL.x (.hd (.tl (.tl (.tl .u24)))) (EX.perm p2 (EX.perm p2 (EX.meet (decide (y131 = 0)) (fun h => by first | exact absurd h (by decide) | (refine ⟨?_, ?_, ?_⟩ <;> first | assumption | omega)) (.refl _) (.eq m0 (by first | rfl | (congr 1 <;> omega) | (refine congrArg Value.bool ?_; simp [*]; done) | (exact congrArg Value.bool (decide_eq_true (by omega)).symm) | (exact congrArg Value.bool (decide_eq_false (by omega)).symm) | (refine congrArg Value.bool (decide_eq_decide.2 ?_); omega)) (.sl 1 7 rfl))))))))))
     exact TS.sub (ρ' := [(126, (.bool false)), (125, (.bool false)), (124, (.bool false)), (123, (i64 n)), (122, (.bool true)), (121, (.bool true)), (120, (.bool true)), (119, (i64 (all.getD i 0))), (118, (pt pd i)), (117, (i64 i)), (116, va), (115, (i64 (all.getD ((i - 1)) 0))), (114, (.pointer (some ⟨pd, (i - 1), none⟩))), (113, (i64 (i - 1))), (112, (i64 i)), (111, va), (110, (.bool true)), (109, (.bool true)), (108, (i64 i)), (8, (i64 y38)), (7, (i64 n)), (6, (i64 i)), (5, v), (4, (.slice none 0 0)), (0, (pt r 0)), (1, va)]) (.eq m0 (congrArg Value.bool (decide_eq_false g126)) (.eq m1 (congrArg Value.bool (decide_eq_false g126)) (.eq m2 (congrArg Value.bool (decide_eq_false g126)) (.sl 3 23 rfl)))) (TS.gn m0 (TS.gn m0 (TS.gnu m0 (TS.gu m0 (TS.nil (TL.gu m1 (TL.gu m2 (TL.gn m4 (TL.val (r_pickf T4 .c) (TL.a m0 (TL.x (.hd .u24) (EX.fold (A' := (Rdr G r (N + 3 * i + 1 + 1))) a2 (Rdr_mono (by omega)) (EX.meet false (fun h => by first | exact absurd h (by decide) | (refine ⟨?_, ?_, ?_⟩ <;> first | assumption | omega)) (.refl _) (.sl 0 8 rfl))))))))))))))
    exact TS.sub (ρ' := [(122, (.bool false)), (121, (.bool false)), (120, (.bool false)), (119, (i64 (all.getD i 0))), (118, (pt pd i)), (117, (i64 i)), (116, va), (115, (i64 (all.getD ((i - 1)) 0))), (114, (.pointer (some ⟨pd, (i - 1), none⟩))), (113, (i64 (i - 1))), (112, (i64 i)), (111, va), (110, (.bool true)), (109, (.bool true)), (108, (i64 i)), (8, (i64 y38)), (7, (i64 n)), (6, (i64 i)), (5, v), (4, (.slice none 0 0)), (0, (pt r 0)), (1, va)]) (.eq m0 (congrArg Value.bool (decide_eq_false g122)) (.eq m1 (congrArg Value.bool (decide_eq_false g122)) (.eq m2 (congrArg Value.bool (decide_eq_false g122)) (.sl 3 19 rfl)))) (TS.gn m0 (TS.gn m0 (TS.val (r_pickf T0 .c) (TS.m m0 (TS.gn m0 (TS.gn m0 (TS.gnu m0 (TS.gu m0 (TS.nil (TL.gu m1 (TL.gu m2 (TL.gn m4 (TL.val (r_pickf T4 .c) (TL.a m0 (TL.x (.hd .u22) (EX.fold (A' := (Rdr G r (N + 3 * i + 1 + 1))) a2 (Rdr_mono (by omega)) (EX.meet false (fun h => by first | exact absurd h (by decide) | (refine ⟨?_, ?_, ?_⟩ <;> first | assumption | omega)) (.refl _) (.sl 0 8 rfl))))))))))))))))))
   exact TS.sub (ρ' := [(110, (.bool false)), (109, (.bool false)), (108, (i64 i)), (8, (i64 y38)), (7, (i64 n)), (6, (i64 i)), (5, v), (4, (.slice none 0 0)), (0, (pt r 0)), (1, va)]) (.eq m0 (congrArg Value.bool (decide_eq_false g110)) (.eq m1 (congrArg Value.bool (decide_eq_false g110)) (.sl 2 8 rfl))) (TS.gn m0 (TS.gn m0 (TS.gn m0 (TS.gn m0 (TS.gn m0 (TS.gn m0 (TS.gn m0 (TS.gn m0 (TS.gn m0 (TS.gn m0 (TS.val (r_pickf T0 .c) (TS.m m0 (TS.gn m0 (TS.gn m0 (TS.val (r_pickf T0 .c) (TS.m m0 (TS.gn m0 (TS.gn m0 (TS.gnu m0 (TS.gu m0 (TS.nil (TL.gu m1 (TL.gu m2 (TL.gn m4 (TL.val (r_pickf T4 .c) (TL.a m0 (TL.x (.hd .u12) (EX.fold (A' := (Rdr G r (N + 3 * i + 1 + 1))) a2 (Rdr_mono (by omega)) (EX.meet false (fun h => by first | exact absurd h (by decide) | (refine ⟨?_, ?_, ?_⟩ <;> first | assumption | omega)) (.refl _) (.sl 0 8 rfl))))))))))))))))))))))))))))))
  rintro bq hbq
  refine CT.iff m0 (fun c107 => ?_) (fun c107 => ?_)
  ·
   obtain ⟨hi0, hz0, hn11⟩ := hbq c107
   refine CT.y (TL.m m5 (TL.m m2 (TL.val (n_min n 6 T0 .c rfl rfl) (TL.val (n_sub ((min n 6)) 2 9223372036854775808 T0 .c) (TL.perm p2 (TL.call (r_call ce_39 (.cons T3 (.cons T0 .nil))) (fun w hS => t39 r (((min n 6) - 2)) (N + 3 * i + 1 + 1) (by omega) (by omega) hS) ?_))))))
   rintro _ w139 ⟨y139, rfl, y139_l, hS⟩
   refine TW.at hS (TL.val (n_add 3 y139 9223372036854775808 .c T0) (TL.a m0 (TL.r (.hd .u6) (TL.m m4 (TL.m m1 (TL.val (n_sub ((3 + y139)) 3 9223372036854775808 T0 .c) (TL.val (r_build (v := (.agg #[(.int .i64 16), (i64 ((3 + y139) - 3)), (.int .i64 2)])) (.cons .c (.cons T0 (.cons .c .nil))) (fun _ => by kernel_rfl)) (TL.w (r_buildSlice (k := 1) (e := 120) (cs := #[(.int .i64 16), (i64 ((3 + y139) - 3)), (.int .i64 2)]) (F := lst [(.int .i64 16), (i64 ((3 + y139) - 3)), (.int .i64 2)]) (.cons T0 .nil) (fun _ => by kernel_rfl) rfl lst_ok) ?_))))))))
   rintro _ w145 ⟨b145, rfl, hS⟩
   refine TW.at hS (TL.perm p2 (TL.w (r_append (j := 1) (k := (sy).length) (ds := [(.int .i64 16), (i64 ((3 + y139) - 3)), (.int .i64 2)]) el_117 Tryz.underlying117 T4 T0 ⟨_, _, rfl⟩ (rdsl m1 rfl rfl) ones3 (by omega) (by omega)) ?_))
   rintro v146 w146 hS
   have ho146 := hS.slc_one
   refine TW.at hS (TL.fold (A' := (slc 3 v146 ((sy ++ [(16, y139)]).length) (syC (sy ++ [(16, y139)])))) a0 (slc_eq (by rw [List.length_append, List.length_singleton]) (syC_put (by omega) rfl)) ?_)
   refine TL.rm .h10 (TL.a m0 (TL.b (.hd .u6) (CT.region (TL.m m4 (TL.m m2 (TL.val (n_add i ((3 + y139)) 9223372036854775808 T1 T0) (TL.rm .h7 (TL.a m0 (TL.x (.hd .u3) (EX.bnormal (EX.bnormal (EX.fold (A' := (Rdr G r (N + 3 * (i + (3 + y139))))) a2 (Rdr_mono (by omega)) (EX.perm p1 (EX.conv (fun _ h => h.tail) ?_))))))))))))))
   exact EX.perm p1 (EX.perm p2 (EX.perm p2 (EX.again ((i + (3 + y139), v146, sy ++ [(16, y139)])) (⟨show i + (3 + y139) ≤ all.length by omega, hI2.add (k := 16) (v := y139) (m := (3 + y139)) (by decide) (by show y139 < 4; omega) (fun _ => hi0) (by omega) (fun t ht => (hn3 t (by omega)).trans rfl) rfl ((take_last hi0 hI1).trans hz0)⟩) (by show all.length - (i + (3 + y139)) < all.length - i; omega) (.refl _) (.eq m0 (by first | rfl | (congr 1 <;> omega) | (refine congrArg Value.bool ?_; simp [*]; done) | (exact congrArg Value.bool (decide_eq_true (by omega)).symm) | (exact congrArg Value.bool (decide_eq_false (by omega)).symm) | (refine congrArg Value.bool (decide_eq_decide.2 ?_); omega)) (.cons m1 (.sl 5 3 rfl))))))
  refine CT.sub .u1 (CT.seq (CT.peek m1 (by omega) ?_))
  intro pe pe_c pe_v pe_k pe_l
  have hal : all.getD i 0 ≤ 15 := h15 _ (List.mem_of_getElem? (getD_get (by omega)))
  refine CT.region (TL.m m3 (TL.m m7 (TL.m m4 (TL.val (r_ia (i := i) (off' := i) Tryz.underlying42 Tryz.sizeOf3 (.te m1 pe_v) T0 rfl (by omega) (by omega)) (TL.val (r_lds (u := (i64 (all.getD i 0))) Tryz.isAgg3 m1 pe_v T0 (by rw [List.getElem?_map, getD_get (by omega)]; rfl)) ?_)))))
  refine TL.val (r_build (v := (.agg #[(i64 (all.getD i 0)), (.int .i64 0), (.int .i64 0)])) (.cons T0 (.cons .c (.cons .c .nil))) (fun _ => by kernel_rfl)) (TL.w (r_buildSlice (k := 1) (e := 120) (cs := #[(i64 (all.getD i 0)), (.int .i64 0), (.int .i64 0)]) (F := lst [(i64 (all.getD i 0)), (.int .i64 0), (.int .i64 0)]) (.cons T0 .nil) (fun _ => by kernel_rfl) rfl lst_ok) ?_)
  rintro _ w45 ⟨b45, rfl, hS⟩
  refine TW.at hS (TL.perm p1 (TL.w (r_append (j := 1) (k := (sy).length) (ds := [(i64 (all.getD i 0)), (.int .i64 0), (.int .i64 0)]) el_117 Tryz.underlying117 T6 T0 ⟨_, _, rfl⟩ (rdsl m1 rfl rfl) ones3 (by omega) (by omega)) ?_))
  rintro v46 w46 hS
  have ho46 := hS.slc_one
  refine TW.at hS (TL.fold (A' := (slc 3 v46 ((sy ++ [(all.getD i 0, 0)]).length) (syC (sy ++ [(all.getD i 0, 0)])))) a0 (slc_eq (by rw [List.length_append, List.length_singleton]) (syC_put rfl (rn_low hal).symm)) ?_)
  refine TL.rm .h11 (TL.a m0 (TL.b (.hd .u8) (CT.region (TL.m m3 (TL.val (n_add i 1 9223372036854775808 T0 .c) (TL.rm .h5 (TL.a m0 (TL.x (.hd .u2) (EX.bnormal (EX.bnormal (EX.fold (A' := (Rdr G r (N + 3 * (i + 1)))) a3 (Rdr_mono (by omega)) (EX.perm p1 (EX.conv (fun _ h => h.tail) ?_)))))))))))))
  exact EX.again ((i + 1, v46, sy ++ [(all.getD i 0, 0)])) (⟨show i + 1 ≤ all.length by omega, hI2.add (m := 1) (x := all.getD i 0) (by omega) (by rw [rn_low hal]; decide) (fun h => absurd h (by omega)) (by omega) (fun t ht => by obtain rfl : t = 0 := (by omega); rfl) (rnMany_low hal) (rnVal_low hal)⟩) (by show all.length - (i + 1) < all.length - i; omega) (.refl _) (.eq m0 (by first | rfl | (congr 1 <;> omega) | (refine congrArg Value.bool ?_; simp [*]; done) | (exact congrArg Value.bool (decide_eq_true (by omega)).symm) | (exact congrArg Value.bool (decide_eq_false (by omega)).symm) | (refine congrArg Value.bool (decide_eq_decide.2 ?_); omega)) (.cons m1 (.sl 4 3 rfl)))
 refine CT.sub .u1 (CT.exit (EX.then_exit (EX.then_exit (EX.out (EX.q (TL.m m1 (TL.rm .h3 (TL.a m0 (TL.b (.hd .u1) (CT.ret ?_))))))))))
 obtain rfl : i = all.length := by omega
 rw [List.take_length] at hI2
 exact EX.end_ (.inl rfl) (res1 Tryz.results82 m0) (fun _ hS => ⟨sy, hI2, (hS.perm p2).imp (Rdr_mono (by omega)) |>.perm p2 |>.perm p2⟩)
theorem t78 (r N least : Nat) (vl : Value) (ls : List Nat) (h1 : 1 ≤ least) (hle : least ≤ ls.length) (hll : ls.length ≤ 1000) (hN : N + 10 < 1099511627000) {G : World} {R : List HProp} {w : World} (hS : Sat G w (Rdr G r (N) :: slc 1 vl ls.length (ls.map i64) :: R)) :
 CallsR Tryz.prog 78 #[(pt r 0), vl, (i64 least)] w (fun v w' => ∃ m : Nat, least ≤ m ∧ m ≤ ls.length ∧ (∀ t, m ≤ t → ls.getD t 0 = 0) ∧ Sat G w' (slc 1 v (ls.take m).length ((ls.take m).map i64) :: Rdr G r (N + 1) :: R)) := by
 refine calls_in (n := 34) [(0, (pt r 0)), (1, vl), (2, (i64 least))] Tryz.func78 rfl rfl hS args3 ?_
 refine CT.q (TL.val (r_asg .c) (TL.q (TL.m m2 (TL.val (r_lens Tryz.underlying42 T0 m1) (TL.a m0 (TL.b (.hd .u2) (CT.cut (X := Nat) (fun gx => [(7, (i64 gx)), (6, (.slice none 0 0)), (0, (pt r 0)), (1, vl), (2, (i64 least))]) (fun gx => (slc 1 vl ls.length (ls.map i64)) :: Rdr G r (N) :: R) (fun gx => least ≤ gx ∧ gx ≤ ls.length ∧ ∀ t, gx ≤ t → ls.getD t 0 = 0) ?_ ?_)))))))
 ·
  refine CT.block (CT.perm p1 (CT.loop (X := Nat) (fun gx => [(7, (i64 gx)), (6, (.slice none 0 0)), (0, (pt r 0)), (1, vl), (2, (i64 least))]) (fun gx => (slc 1 vl ls.length (ls.map i64)) :: Rdr G r (N) :: R) (fun gx => least ≤ gx ∧ gx ≤ ls.length ∧ ∀ t, gx ≤ t → ls.getD t 0 = 0) (fun gx => gx) ls.length (⟨hle, Nat.le_refl _, fun t ht => by rw [List.getD_eq_getElem?_getD, List.getElem?_eq_none ht]; rfl⟩) (.refl _) (.sl 0 5 rfl) ?_))
  rintro n ⟨hn1, hn2, hn3⟩
  refine CT.seq (CT.seq (CT.peek m0 (by omega) ?_))
  intro pa pa_c pa_v pa_k pa_l
  refine CT.region (TL.m m0 (TL.m m5 (TL.val (n_gtr n least T1 T0) (TL.m m0 ?_))))
  by_cases g13 : least < n
  ·
   refine TL.sub (.eq m0 (congrArg Value.bool (decide_eq_true g13)) (.eq m1 (congrArg Value.bool (decide_eq_true g13)) (.cons m2 (.cons m3 (.cons m4 (.cons m5 (.cons m6 (.cons m7 (.cons m8 .nil))))))))) (TL.gv m0 (r_move T7) (TL.gv m1 (r_move T5) (TL.gv m2 (n_sub n 1 9223372036854775808 T0 .c) (TL.gv m3 (r_ia (i := (n - 1)) (off' := (n - 1)) Tryz.underlying42 Tryz.sizeOf3 (.te m2 pa_v) T0 rfl (by omega) (by omega)) (TL.gv m4 (r_lds (u := (i64 (ls.getD ((n - 1)) 0))) Tryz.isAgg3 m0 pa_v T0 (by rw [List.getElem?_map, getD_get (by omega)]; rfl)) ?_)))))
   refine TL.gv m5 (n_eql ((ls.getD ((n - 1)) 0)) 0 T0 .c) (TL.val (r_pickt T6 T0) (TL.b (.hd .u10) (CT.ifd m0 (fun c20 => ?_) (fun c20 => ?_))))
   ·
    exact CT.z (EX.seq (CT.block (CT.region (TL.m m0 (TL.val (n_sub n 1 9223372036854775808 T0 .c) (TL.rm .h2 (TL.a m0 (TL.x (.hd .u2) (EX.bnormal (EX.again (n - 1) (⟨by omega, by omega, fun t ht => by rcases Nat.lt_or_ge t n with h | h; obtain rfl : t = n - 1 := (by omega); exact c20; exact hn3 t h⟩) (by omega) (.refl _) (.eq m0 (by first | rfl | (congr 1 <;> omega)) (.sl 1 4 rfl))))))))))))
   exact CT.sub .u1 (CT.exit (EX.then_exit (EX.then_exit (EX.out (EX.meet n (⟨hn1, hn2, hn3⟩) (.refl _) (.sl 0 5 rfl))))))
  refine TL.sub (.eq m0 (congrArg Value.bool (decide_eq_false g13)) (.eq m1 (congrArg Value.bool (decide_eq_false g13)) (.cons m2 (.cons m3 (.cons m4 (.cons m5 (.cons m6 (.cons m7 (.cons m8 .nil))))))))) (TL.gn m0 (TL.gn m0 (TL.gn m0 (TL.gn m0 (TL.gn m0 (TL.gn m0 (TL.val (r_pickf T0 .c) (TL.b (.hd .u4) (CT.iff_ m0 ?_)))))))))
  exact CT.sub .u1 (CT.exit (EX.then_exit (EX.then_exit (EX.out (EX.meet n (⟨hn1, hn2, hn3⟩) (.refl _) (.sl 0 5 rfl))))))
 rintro n ⟨hn1, hn2, hn3⟩
 refine CT.seq (CT.open1 (by omega) ?_)
 rintro db db_c db_F rfl db_k db_l db_h
 refine CT.region (TL.m m3 (TL.m m1 (TL.m m4 (TL.m m6 (TL.val (r_len Tryz.underlying42 T0) (TL.m m5 (TL.val (n_sub ls.length n 9223372036854775808 T1 T0) (TL.val (n_add ((ls.length - n)) 1 9223372036854775808 T0 .c) (TL.perm p1 (TL.call (r_call ce_39 (.cons T5 (.cons T0 .nil))) (fun w hS => t39 r (((ls.length - n) + 1)) (N) (by omega) (by omega) hS) ?_))))))))))
 rintro _ w31 ⟨y31, rfl, y31_l, hS⟩
 exact TW.at hS (TL.val (n_add n y31 9223372036854775808 T7 T0) (TL.val (r_slice (off' := 0) (m := (n + y31)) (c' := db_c) Tryz.underlying42 Tryz.sizeOf3 T9 .no (.so (j := (n + y31)) T0 rfl) (by (try simp) <;> omega) (by (try simp) <;> omega) (by simp) (by simp) (by simp)) (TL.rm .h12 (TL.a m0 (TL.b (.hd (.tl (.tl (.tl (.tl (.tl (.tl (.tl (.tl (.tl (.tl (.tl (.hd .u1))))))))))))) (CT.ret (EX.fold (A' := (slc 1 (.slice (some ⟨db, 0, none⟩) ((n + y31)) db_c) ((ls.take (n + y31)).length) ((ls.take (n + y31)).map i64))) a1 (slc_take db_k db_h (by omega)) (EX.perm p1 (EX.end_ (.inl rfl) (res1 Tryz.results78 m0) (fun _ hS => ⟨n + y31, by omega, by omega, fun t ht => hn3 t (by omega), hS⟩))))))))))
end Go.Eng
namespace Go.Eng
open Go Go.Proofs Go.Infl
theorem bcf_upd {nd : List Bool} {k : Nat} (h : k < nd.length) : upd (bcf nd) k (.bool true) = bcf (nd.set k true) := by
 funext j
 unfold upd bcf
 by_cases e : j = k
 ·
  subst e
  rw [if_pos rfl, List.getD_eq_getElem?_getD, List.getElem?_set, if_pos rfl, if_pos h]; rfl
 have e2 : ¬ k = j := fun h => e h.symm
 rw [if_neg e, List.getD_eq_getElem?_getD, List.getD_eq_getElem?_getD, List.getElem?_set, if_neg e2]
theorem bcf_rep {n : Nat} : (fun _ => .bool false) = bcf (List.replicate n false) := by
 funext j
 unfold bcf
 rw [List.getD_eq_getElem?_getD, List.getElem?_replicate]
 split <;> rfl
theorem need_zero {its : List It} : NeedI its 0 ((List.replicate 286 false).set 256 true) (List.replicate 30 false) :=
 ⟨by rw [List.length_set, List.length_replicate], List.length_replicate, set_self (by rw [List.length_replicate]; decide), fun x hx => by simp at hx⟩
theorem t60 (vi : Value) (its : List It) (n0 : Nat) (hok : ItOk n0 its) (hil : its.length ≤ 4096) {G : World} {R : List HProp} {w : World} (hS : Sat G w (slc 3 vi its.length (itC its) :: R)) :
 CallsR Tryz.prog 60 #[vi] w (fun v w' => ∃ (lb db : Nat) (l d : List Bool), v = .tuple #[.slice (some ⟨lb, 0, none⟩) 286 286, .slice (some ⟨db, 0, none⟩) 30 30] ∧ NeedI its its.length l d ∧ Sat G w' (blk lb 286 (bcf l) :: blk db 30 (bcf d) :: slc 3 vi its.length (itC its) :: R)) := by
 refine calls_in (n := 54) [(0, vi)] Tryz.func60 rfl rfl hS args1 ?_
 refine CT.q (TL.val (r_asg .c) (TL.val (r_asg .c) (TL.e (CT.cut (X := Nat × Nat) (fun gx => [(5, (.slice (some ⟨gx.2, 0, none⟩) 30 30)), (4, (.slice (some ⟨gx.1, 0, none⟩) 286 286)), (3, (.slice none 0 0)), (2, (.slice none 0 0)), (0, vi)]) (fun gx => (blk gx.1 286 (bcf (List.replicate 286 false))) :: blk gx.2 30 (bcf (List.replicate 30 false)) :: slc 3 vi its.length (itC its) :: R) (fun gx => True) ?_ ?_))))
 ·
  refine CT.any fm ?_
  refine TA.two 0 1 (by kernel_rfl) ?_ ?_
  ·
   refine TO.w rfl (r_make (l := 286) (c := 286) Tryz.underlying70 Tryz.sizeOf4 ⟨_, Tryz.typeInfo4, rfl⟩ Tryz.zeroValue4 rfl .c .c rfl rfl (by omega) (by decide) (by omega)) ?_
   rintro _ w14 ⟨b14, rfl, hS⟩
   refine TB.at hS (TA.t 2 rfl (fun G L => r_asg T0) (TA.one 1 (by kernel_rfl) (TO.w rfl (r_make (l := 30) (c := 30) Tryz.underlying70 Tryz.sizeOf4 ⟨_, Tryz.typeInfo4, rfl⟩ Tryz.zeroValue4 rfl .c .c rfl rfl (by omega) (by decide) (by omega)) ?_)))
   rintro _ w15 ⟨b15, rfl, hS⟩
   exact TB.at hS (TA.t 3 rfl (fun G L => r_asg T0) (TA.done (by kernel_rfl) (EX.sub (.hd (.tl (.hd .u1))) (EX.fold (A' := (blk b14 286 (bcf (List.replicate 286 false)))) a1 (blk_eq rfl bcf_rep) (EX.fold (A' := (blk b15 30 (bcf (List.replicate 30 false)))) a0 (blk_eq rfl bcf_rep) (EX.perm p2 (EX.perm p1 (EX.perm p2 (EX.meet ((b14, b15)) trivial (.refl _) (.sl 0 5 rfl))))))))))
  refine TO.w rfl (r_make (l := 30) (c := 30) Tryz.underlying70 Tryz.sizeOf4 ⟨_, Tryz.typeInfo4, rfl⟩ Tryz.zeroValue4 rfl .c .c rfl rfl (by omega) (by decide) (by omega)) ?_
  rintro _ w15 ⟨b15, rfl, hS⟩
  refine TB.at hS (TA.one 0 (by kernel_rfl) (TO.w rfl (r_make (l := 286) (c := 286) Tryz.underlying70 Tryz.sizeOf4 ⟨_, Tryz.typeInfo4, rfl⟩ Tryz.zeroValue4 rfl .c .c rfl rfl (by omega) (by decide) (by omega)) ?_))
  rintro _ w14 ⟨b14, rfl, hS⟩
  exact TB.at hS (TA.t 2 rfl (fun G L => r_asg T0) (TA.t 3 rfl (fun G L => r_asg T2) (TA.done (by kernel_rfl) (EX.sub (.hd (.hd .u2)) (EX.fold (A' := (blk b14 286 (bcf (List.replicate 286 false)))) a0 (blk_eq rfl bcf_rep) (EX.fold (A' := (blk b15 30 (bcf (List.replicate 30 false)))) a1 (blk_eq rfl bcf_rep) (EX.meet ((b14, b15)) trivial (.refl _) (.sl 0 5 rfl))))))))
 rintro ⟨lb, db⟩ -
 refine CT.q (TL.m m1 (TL.val (r_ia (i := 256) (off' := 256) Tryz.underlying70 Tryz.sizeOf4 T0 .c rfl (by omega) rfl) (TL.s (r_st (F' := bcf ((List.replicate 286 false).set 256 true)) Tryz.sizeOf4 (bcf_upd (by first | omega | (rw [List.length_set]; omega) | (rw [List.length_replicate]; decide))) a0 T0 .c (by first | omega | decide)) (TL.b .u2 (CT.seq (CT.q (TL.m m4 (TL.val (r_lens Tryz.underlying62 T0 m2) (TL.val (r_move .c) (TL.b (.hd (.hd (.hd (.hd (.hd (.hd (.hd .u1))))))) (CT.block (CT.loop (X := Nat × List Bool × List Bool) (fun gx => [(20, (i64 gx.1)), (19, (i64 its.length)), (18, vi), (5, (.slice (some ⟨db, 0, none⟩) 30 30)), (4, (.slice (some ⟨lb, 0, none⟩) 286 286))]) (fun gx => (blk lb 286 (bcf gx.2.1)) :: blk db 30 (bcf gx.2.2) :: slc 3 vi its.length (itC its) :: R) (fun gx => gx.1 ≤ its.length ∧ NeedI its gx.1 gx.2.1 gx.2.2) (fun gx => its.length - gx.1) ((0, (List.replicate 286 false).set 256 true, List.replicate 30 false)) (⟨Nat.zero_le _, need_zero⟩) (.refl _) (.sl 0 5 rfl) ?_))))))))))))
 rintro ⟨k, l, d⟩ ⟨hI1, hI2⟩
 replace hI1 : k ≤ its.length := hI1
 replace hI2 : NeedI its k l d := hI2
 have hll := hI2.ll
 have hdl := hI2.dl
 refine CT.q (TL.val (n_lss k its.length T0 T1) (TL.e (CT.seq (CT.ifd m0 (fun c21 => ?_) (fun c21 => ?_)))))
 ·
  refine CT.z (EX.seq (CT.seq (CT.block (CT.seq ?_))))
  obtain ⟨it, hit⟩ : ∃ it, its[k]? = some it := ⟨_, List.getElem?_eq_getElem c21⟩
  have hok1 := hok.at_ hit
  refine CT.peek m2 (by omega) ?_
  intro d_ d__c d__v d__k d__l
  rcases it with y | ⟨n, m⟩
  ·
   have hy0 : y < 256 := hok1.1
   refine CT.region (TL.val (r_ia (i := k) (off' := k * 3) Tryz.underlying62 Tryz.sizeOf65 (.te m2 d__v) T0 rfl (by omega) (by omega)) (TL.val (r_ld3 (c0 := (u8 y)) (c1 := (.int .i64 0)) (c2 := (.int .i64 0)) Tryz.isAgg65 Tryz.sizeOf65 T0 (fun _ hS => hS.slc_cell m2 d__v ((itC_get (i := 0) hit (by decide)).trans rfl)) (fun _ hS => hS.slc_cell m2 d__v ((itC_get (i := 1) hit (by decide)).trans rfl)) (fun _ hS => hS.slc_cell m2 d__v ((itC_get (i := 2) hit (by decide)).trans rfl))) (TL.w (r_alloc (F := lst [(.int .u8 0), (.int .i64 0), (.int .i64 0)]) Tryz.zeroValue65 rfl rfl lst_ok) ?_)))
   rintro _ w7 ⟨b7, rfl, hS⟩
   refine TW.at hS (TL.s (r_stagl (cs := [(u8 y), (.int .i64 0), (.int .i64 0)]) (l' := [(u8 y), (.int .i64 0), (.int .i64 0)]) Tryz.sizeOf65 T0 T1 rfl (by decide) ones3) (TL.b (.hd .u2) (CT.seq (CT.q (TL.f 1 fo_65_1 m0 (TL.val (r_ld (v := (.int .i64 0)) Tryz.isAgg3 m0 T0 (by decide) rfl) (TL.val (show Run _ _ _ _ _ _ (.bool true) from n_eql 0 0 T0 .c rfl rfl) (TL.b (.hd .u2) (CT.ift m0 ?_)))))))))
   refine CT.y (TL.m m5 (TL.f 0 fo_65_0 m1 (TL.val (r_ld (v := (u8 y)) Tryz.isAgg5 m0 T0 (by decide) rfl) (TL.val (r_ia (i := y) (off' := y) Tryz.underlying70 Tryz.sizeOf4 T2 T0 rfl (by omega) (by omega)) (TL.s (r_st (F' := bcf (l.set y true)) Tryz.sizeOf4 (bcf_upd (by first | omega | (rw [List.length_set]; omega) | (rw [List.length_replicate]; decide))) a1 T0 .c (by first | omega | decide)) (TL.b .u4 (CT.exit (EX.then_exit (EX.out (EX.seq (CT.region (TL.val (n_add k 1 9223372036854775808 T1 .c) (TL.rm .h2 (TL.m m0 (TL.x (.hd .u1) (EX.conv (fun _ h => h.tail) ?_))))))))))))))))
   exact EX.again ((k + 1, l.set y true, d)) (⟨(show k + 1 ≤ its.length by omega), hI2.lit hy0 hit⟩) (by show its.length - (k + 1) < its.length - k; omega) (.refl _) (.eq m0 (by first | rfl | (congr 1 <;> omega)) (.sl 2 4 rfl))
  obtain ⟨⟨ok1, ok2, ok3, ok4, ok5⟩, -⟩ := hok1
  refine CT.region (TL.val (r_ia (i := k) (off' := k * 3) Tryz.underlying62 Tryz.sizeOf65 (.te m2 d__v) T0 rfl (by omega) (by omega)) (TL.val (r_ld3 (c0 := (.int .u8 0)) (c1 := (i64 n)) (c2 := (i64 m)) Tryz.isAgg65 Tryz.sizeOf65 T0 (fun _ hS => hS.slc_cell m2 d__v ((itC_get (i := 0) hit (by decide)).trans rfl)) (fun _ hS => hS.slc_cell m2 d__v ((itC_get (i := 1) hit (by decide)).trans rfl)) (fun _ hS => hS.slc_cell m2 d__v ((itC_get (i := 2) hit (by decide)).trans rfl))) (TL.w (r_alloc (F := lst [(.int .u8 0), (.int .i64 0), (.int .i64 0)]) Tryz.zeroValue65 rfl rfl lst_ok) ?_)))
  rintro _ w7 ⟨b7, rfl, hS⟩
  refine TW.at hS (TL.s (r_stagl (cs := [(.int .u8 0), (i64 n), (i64 m)]) (l' := [(.int .u8 0), (i64 n), (i64 m)]) Tryz.sizeOf65 T0 T1 rfl (by decide) ones3) (TL.b (.hd .u2) (CT.seq (CT.q (TL.f 1 fo_65_1 m0 (TL.val (r_ld (v := (i64 n)) Tryz.isAgg3 m0 T0 (by decide) rfl) (TL.val (n_eql n 0 T0 .c) (TL.b (.hd .u2) (CT.ifd m0 (fun c26 => ?_) (fun c26 => ?_))))))))))
  ·
   exfalso; omega
  refine CT.z (EX.q (TL.f 1 fo_65_1 m0 (TL.val (r_ld (v := (i64 n)) Tryz.isAgg3 m0 T0 (by decide) rfl) (TL.call (r_call ce_80 (.cons T0 .nil)) (fun w hS => t80 n (by omega) (by omega) hS) ?_))))
  rintro _ w34 ⟨k1, e1, rfl, hla, hS⟩
  refine TW.at hS ?_
  have hk1 := hla.2.1
  refine TL.m m0 (TL.val (r_ext T0) (TL.val (r_ext T1) (TL.val (r_ext T2) (TL.a m2 (TL.a m2 (TL.a m2 (TL.r (.tl (.tl (.hd .u7))) (TL.f 2 fo_65_2 m1 (TL.val (r_ld (v := (i64 m)) Tryz.isAgg3 m0 T0 (by decide) rfl) (TL.call (r_call ce_81 (.cons T0 .nil)) (fun w hS => t81 m (by omega) (by omega) hS) ?_))))))))))
  rintro _ w41 ⟨k2, e2, rfl, hda, hS⟩
  refine TW.at hS ?_
  have hk2 := hda.1
  refine TL.m m0 (TL.val (r_ext T0) (TL.val (r_ext T1) (TL.val (r_ext T2) (TL.a m2 (TL.a m2 (TL.a m2 (TL.b (.tl (.tl (.hd .u7))) (CT.region (TL.m m7 (TL.m m2 (TL.m m8 (TL.m m3 (TL.val (r_ia (i := k1) (off' := k1) Tryz.underlying70 Tryz.sizeOf4 T3 T2 rfl (by omega) (by omega)) (TL.s (r_st (F' := bcf (l.set k1 true)) Tryz.sizeOf4 (bcf_upd (by first | omega | (rw [List.length_set]; omega) | (rw [List.length_replicate]; decide))) a1 T0 .c (by first | omega | decide)) (TL.val (r_ia (i := k2) (off' := k2) Tryz.underlying70 Tryz.sizeOf4 T2 T1 rfl (by omega) (by omega)) (TL.s (r_st (F' := bcf (d.set k2 true)) Tryz.sizeOf4 (bcf_upd (by first | omega | (rw [List.length_set]; omega) | (rw [List.length_replicate]; decide))) a2 T0 .c (by first | omega | decide)) (TL.x .u6 (EX.bnormal (EX.seq (CT.region (TL.val (n_add k 1 9223372036854775808 T3 .c) (TL.rm .h4 (TL.m m0 (TL.x (.hd .u1) (EX.conv (fun _ h => h.tail) ?_)))))))))))))))))))))))))
  exact EX.again ((k + 1, l.set k1 true, d.set k2 true)) (⟨(show k + 1 ≤ its.length by omega), hI2.mat hla hda hit⟩) (by show its.length - (k + 1) < its.length - k; omega) (.refl _) (.eq m0 (by first | rfl | (congr 1 <;> omega)) (.sl 4 4 rfl))
 refine CT.sub .u1 (CT.exit (EX.then_exit (EX.then_exit (EX.out (EX.q (TL.m m4 (TL.m m4 (TL.a m1 (TL.a m1 (TL.b (.hd (.hd .u2)) (CT.ret ?_)))))))))))
 obtain rfl : k = its.length := by omega
 exact EX.end_ (.inl rfl) (res2 Tryz.results60 m1 m0) (fun _ hS => ⟨lb, db, l, d, rfl, hI2, hS⟩)
end Go.Eng
namespace Go.Infl
theorem kraft_zeros : ∀ {l : List Nat}, (∀ x ∈ l, x = 0) → kraft l = 0
 | [], _ => rfl
 | a :: l, h => by
  rw [kraft_cons, kraft_zeros (l := l) (fun x hx => h x (List.mem_cons_of_mem _ hx)), h a (List.mem_cons_self ..)]; rfl
theorem trim_drop {o : List Nat} {m : Nat} (hz : ∀ t, m ≤ t → o.getD t 0 = 0) : ∀ x ∈ o.drop m, x = 0 := by
 intro x hx
 obtain ⟨j, hj⟩ := List.getElem?_of_mem hx
 rw [List.getElem?_drop] at hj
 have := hz (m + j) (by omega)
 rw [List.getD_eq_getElem?_getD, hj] at this
 exact this
theorem trim_full {o : List Nat} {m : Nat} (h : Full o) (h15 : ∀ x ∈ o, x ≤ 15) (hz : ∀ t, m ≤ t → o.getD t 0 = 0) : Full (o.take m) := by
 have h1 := h.kraft h15
 have h2 := kraft_append (o.take m) (o.drop m)
 rw [List.take_append_drop, kraft_zeros (trim_drop hz), h1] at h2
 show nx (o.take m) 16 = 2 ^ 15
 rw [kraft_nx (fun x hx => h15 x (List.mem_of_mem_take hx))]; omega
theorem trim_lok {o : List Nat} {m i : Nat} (h15 : ∀ x ∈ o, x ≤ 15) (hz : ∀ t, m ≤ t → o.getD t 0 = 0) (h1 : 1 ≤ o.getD i 0) : LOk (o.take m) i := by
 have hi : i < m := Nat.lt_of_not_le fun h => by have := hz i h; omega
 have hl : i < o.length := Nat.lt_of_not_le fun h => by
  rw [List.getD_eq_getElem?_getD, List.getElem?_eq_none h] at h1
  exact absurd h1 (by decide)
 have e : (o.take m).getD i 0 = o.getD i 0 := by rw [List.getD_eq_getElem?_getD, List.getD_eq_getElem?_getD, List.getElem?_take, if_pos hi]
 exact ⟨by rw [List.length_take]; omega, by rw [e]; exact h1, by rw [e]; exact h15 _ (List.mem_of_getElem? (getD_get hl))⟩
def Lits (l : List It) : Prop := ∀ x ∈ l, ∃ b, x = .lit b
theorem NeedI.needs {its : List It} {l d : List Bool} {ls ds : List Nat} (H : NeedI its its.length l d) (hl : ∀ i, l[i]? = some true → LOk ls i) (hd : Lits its ∨ ∀ i, d[i]? = some true → LOk ds i) : ∀ x ∈ its, Needs ls ds x := by
 intro x hx
 have h := H.all x (by rw [List.take_length]; exact hx)
 cases x with
 | lit b => exact hl _ h
 | mat n m =>
  rcases hd with hd | hd
  ·
   obtain ⟨b, e⟩ := hd _ hx; cases e
  exact ⟨fun k v hk => hl _ (h.1 k v hk), fun k v hk => hd _ (h.2 k v hk)⟩
theorem Lits.put {its : List It} {k b : Nat} (H : Lits (its.take k)) (h : its[k]? = some (.lit b)) : Lits (its.take (k + 1)) := by
 intro x hx
 rw [List.take_add_one, h] at hx
 rcases List.mem_append.1 hx with h | h
 ·
  exact H x h
 exact ⟨b, List.mem_singleton.1 h⟩
theorem own_lok {own : List Nat} {nd : List Bool} {sy : List (Nat × Nat)} (h7 : ∀ x ∈ own, x ≤ 7) (hl : own.length = 19) (hown : ∀ i, nd[i]? = some true → 1 ≤ own.getD i 0) (hs : ∀ x ∈ sy, nd[x.1]? = some true ∧ x.1 ≤ 18) : ∀ x ∈ sy, LOk own x.1 := by
 intro x hx
 obtain ⟨h1, h2⟩ := hs x hx
 exact ⟨by omega, hown _ h1, Nat.le_trans (h7 _ (List.mem_of_getElem? (getD_get (by omega)))) (by decide)⟩
theorem symX_length {own : List Nat} {x : Nat × Nat} (h7 : own.getD x.1 0 ≤ 15) : (symX own x).length ≤ 22 := by
 unfold symX
 rw [List.length_append, symB_length, nbits_length]
 have : rnBits x.1 ≤ 7 := by unfold rnBits; split; decide; split; decide; split <;> decide
 omega
end Go.Infl
namespace Go.Eng
open Go Go.Proofs Go.Infl
theorem t61' (r nb M N n : Nat) (nd : List Bool) (hn : nd.length = n) (hM1 : 1 ≤ M) (hM : M ≤ 15) (hn2 : 2 ≤ n) (hnl : n ≤ 300) (hcap : n ≤ 2 ^ M) (hN : N + 1000 < 1099511627000) {G : World} {R : List HProp} {w : World} (hS : Sat G w (Rdr G r N :: blk nb n (bcf nd) :: R)) :
 CallsR Tryz.prog 61 #[pt r 0, .slice (some ⟨nb, 0, none⟩) n n, i64 M] w (fun v w' => ∃ o : List Nat, o.length = n ∧ (∀ x ∈ o, x ≤ M) ∧ Full o ∧ (∀ i, nd[i]? = some true → 1 ≤ o.getD i 0) ∧ Sat G w' (slc 1 v o.length (o.map i64) :: blk nb n (bcf nd) :: Rdr G r (N + 3 * n) :: R)) := by
 subst hn
 exact t61 r nb M N nd hM1 hM hn2 hnl hcap hN hS
theorem keep4c {G w : World} {R : List HProp} {A B C D X Y Z : HProp} (h : Sat G w (A :: B :: C :: D :: X :: Y :: Z :: R)) : Sat G w (A :: B :: C :: D :: R) := ((((h.perm p6).tail.perm p5).tail).perm p4).tail
theorem t63 (p r N : Nat) (vl vd : Value) (ls ds : List Nat) (bs : List Bool) (hl1 : 257 ≤ ls.length) (hl2 : ls.length ≤ 286) (hd1 : 1 ≤ ds.length) (hd2 : ds.length ≤ 30) (h15 : ∀ x ∈ ls ++ ds, x ≤ 15) (h256 : LOk ls 256) (hb : bs.length + 100000 < 1099511627776) (hN : N + 10000 < 1099511627000) {G : World} {R : List HProp} {w : World} (hS : Sat G w (Wr p bs :: slc 1 vl ls.length (ls.map i64) :: slc 1 vd ds.length (ds.map i64) :: Rdr G r (N) :: R)) :
 CallsR Tryz.prog 63 #[(pt p 0), (pt r 0), vl, vd] w (fun v w' => v = .tuple #[] ∧ ∃ hb, Go.Infl.Told hb ls ds ∧ hb.length ≤ 20000 ∧ Sat G w' (Wr p (bs ++ hb) :: slc 1 vl ls.length (ls.map i64) :: slc 1 vd ds.length (ds.map i64) :: Rdr G r (N + 3 * (ls ++ ds).length + 3 * 19) :: R)) := by
 have hld : (ls ++ ds).length = ls.length + ds.length := List.length_append
 refine calls_in (n := 112) [(0, (pt p 0)), (1, (pt r 0)), (2, vl), (3, vd)] Tryz.func63 rfl rfl hS args4 ?_
 refine CT.q (TL.m m1 (TL.w (r_buildSlice (k := 0) (e := 3) (cs := #[]) (F := lst []) .nil (fun _ => by kernel_rfl) rfl lst_ok) ?_))
 rintro _ w20 ⟨b20, rfl, hS⟩
 refine TW.at hS (TL.m m4 (TL.fold (A' := (slc 1 (.slice (some ⟨b20, 0, none⟩) 0 0) 0 ([]))) a0 (mk_slc1 rfl (by decide) (by intro j x h; cases h)) ?_))
 refine TL.w (r_appends (j := ls.length) (k := 0) (ds := ls.map i64) el_42 Tryz.underlying42 T1 T0 m2 (ones_map one_i64) (by omega) (by omega)) ?_
 rintro v22 w22 hS
 have ho22 := hS.slc_one
 refine TW.at hS (TL.fold (A' := (slc 1 v22 ls.length (ls.map i64))) a0 (slc_eq (Nat.zero_add _) rfl) ?_)
 refine TL.m m7 (TL.w (r_appends (j := ds.length) (k := ls.length) (ds := ds.map i64) el_42 Tryz.underlying42 T1 T0 m3 (ones_map one_i64) (by omega) (by omega)) ?_)
 rintro v24 w24 hS
 have ho24 := hS.slc_one
 refine TW.at hS (TL.fold (A' := (slc 1 v24 ((ls ++ ds).length) ((ls ++ ds).map i64))) a0 (slc_eq (by rw [List.length_append]) (by rw [List.map_append])) ?_)
 refine TL.perm p4 (TL.call (r_call ce_82 (.cons T5 (.cons T0 .nil))) (fun w hS => t82 r (N) v24 (ls ++ ds) h15 (by rw [List.length_append]; omega) (by omega) hS) ?_)
 rintro v25 w25 ⟨sy, hsy, hS⟩
 refine TW.at hS (TL.a m0 (TL.r (.hd .u7) (TL.w (r_make (l := 19) (c := 19) Tryz.underlying70 Tryz.sizeOf4 ⟨_, Tryz.typeInfo4, rfl⟩ Tryz.zeroValue4 rfl .c .c rfl rfl (by omega) (by decide) (by omega)) ?_)))
 rintro _ w26 ⟨b26, rfl, hS⟩
 refine TW.at hS (TL.a m0 (TL.b (.hd .u1) (CT.seq (CT.q (TL.m m1 (TL.val (r_lens Tryz.underlying117 T0 m1) (TL.val (r_move .c) (TL.e (CT.block (CT.fold (A' := (blk b26 19 (bcf (List.replicate 19 false)))) a0 (blk_eq rfl bcf_rep) (CT.perm p2 (CT.conv (fun _ h => h.tail) ?_))))))))))))
 refine CT.perm p5 (CT.perm p5 (CT.perm p5 (CT.perm p4 (CT.perm p5 (CT.perm p5 (CT.loop (X := Nat × List Bool) (fun gx => [(29, (i64 gx.1)), (28, (i64 sy.length)), (27, v25), (9, (.slice (some ⟨b26, 0, none⟩) 19 19)), (8, v25), (0, (pt p 0)), (1, (pt r 0)), (2, vl), (3, vd)]) (fun gx => (blk b26 19 (bcf gx.2)) :: Rdr G r (N + 3 * (ls ++ ds).length) :: slc 3 v25 sy.length (syC sy) :: Wr p bs :: slc 1 vl ls.length (ls.map i64) :: slc 1 vd ds.length (ds.map i64) :: R) (fun gx => gx.1 ≤ sy.length ∧ (gx.2).length = 19 ∧ ∀ x ∈ sy.take gx.1, (gx.2)[x.1]? = some true) (fun gx => sy.length - gx.1) ((0, List.replicate 19 false)) (⟨Nat.zero_le _, List.length_replicate, fun x hx => by simp at hx⟩) (.refl _) (.sl 0 9 rfl) ?_))))))
 rintro ⟨k, nd⟩ ⟨hI1, hnd, hnA⟩
 replace hI1 : k ≤ sy.length := hI1
 replace hnd : nd.length = 19 := hnd
 replace hnA : ∀ x ∈ sy.take k, nd[x.1]? = some true := hnA
 refine CT.q (TL.val (n_lss k sy.length T0 T1) (TL.e (CT.seq (CT.ifd m0 (fun c30 => ?_) (fun c30 => ?_)))))
 ·
  refine CT.z (EX.seq (CT.seq (CT.block (CT.seq ?_))))
  have hsyl := hsy.le
  obtain ⟨⟨sk, sv⟩, hit⟩ : ∃ x, sy[k]? = some x := ⟨_, List.getElem?_eq_getElem c30⟩
  have hmem : (sk, sv) ∈ sy := List.mem_of_getElem? hit
  have hsk := (hsy.mem _ hmem).1; have hsv := (hsy.mem _ hmem).2
  replace hsk : sk ≤ 18 := hsk; replace hsv : sv < 2 ^ rnBits sk := hsv
  have htk : sy.take (k + 1) = sy.take k ++ [(sk, sv)] := by rw [List.take_add_one, hit]; rfl
  refine CT.peek m2 (by omega) ?_
  intro d_ d__c d__v d__k d__l
  refine CT.region (TL.val (r_ia (i := k) (off' := k * 3) Tryz.underlying117 Tryz.sizeOf120 (.te m2 d__v) T0 rfl (by omega) (by omega)) (TL.val (r_ld3 (c0 := (i64 sk)) (c1 := (i64 sv)) (c2 := (i64 (rnBits sk))) Tryz.isAgg120 Tryz.sizeOf120 T0 (fun _ hS => hS.slc_cell m2 d__v ((syC_get (i := 0) hit (by decide)).trans rfl)) (fun _ hS => hS.slc_cell m2 d__v ((syC_get (i := 1) hit (by decide)).trans rfl)) (fun _ hS => hS.slc_cell m2 d__v ((syC_get (i := 2) hit (by decide)).trans rfl))) (TL.w (r_alloc (F := lst [(.int .i64 0), (.int .i64 0), (.int .i64 0)]) Tryz.zeroValue120 rfl rfl lst_ok) ?_)))
  rintro _ w11 ⟨b11, rfl, hS⟩
  refine TW.at hS (TL.s (r_stagl (cs := [(i64 sk), (i64 sv), (i64 (rnBits sk))]) (l' := [(i64 sk), (i64 sv), (i64 (rnBits sk))]) Tryz.sizeOf120 T0 T1 rfl (by decide) ones3) (TL.b (.hd .u2) (CT.region (TL.m m4 (TL.f 0 fo_120_0 m1 (TL.val (r_ld (v := (i64 sk)) Tryz.isAgg3 m0 T0 (by decide) rfl) (TL.val (r_ia (i := sk) (off' := sk) Tryz.underlying70 Tryz.sizeOf4 T2 T0 rfl (by omega) (by omega)) (TL.s (r_st (F' := bcf (nd.set sk true)) Tryz.sizeOf4 (bcf_upd (by omega)) a1 T0 .c (by omega)) (TL.x .u4 (EX.bnormal (EX.seq (CT.region (TL.val (n_add k 1 9223372036854775808 T1 .c) (TL.rm .h2 (TL.m m0 (TL.x (.hd .u1) (EX.conv (fun _ h => h.tail) ?_)))))))))))))))))
  exact EX.again ((k + 1, nd.set sk true)) (⟨(show k + 1 ≤ sy.length by omega), (by show (nd.set sk true).length = 19; rw [List.length_set]; exact hnd), (by show ∀ x ∈ sy.take (k + 1), (nd.set sk true)[x.1]? = some true; rw [htk]; intro x hx; rcases List.mem_append.1 hx with h | h; exact set_true (hnA x h); rw [List.mem_singleton.1 h]; exact set_self (by show sk < nd.length; omega))⟩) (by show sy.length - (k + 1) < sy.length - k; omega) (.refl _) (.eq m0 (by first | rfl | (congr 1 <;> omega)) (.sl 2 8 rfl))
 refine CT.sub .u1 (CT.exit (EX.then_exit (EX.then_exit (EX.out (EX.q (TL.m m6 (TL.m m4 (TL.perm p1 (TL.call (r_call ce_61 (.cons T1 (.cons T0 (.cons .c .nil)))) (fun w hS => t61' r b26 7 (N + 3 * (ls ++ ds).length) 19 nd hnd (by decide) (by decide) (by decide) (by decide) (by decide) (by omega) hS) ?_)))))))))
 rintro v40 w40 ⟨own, own_l, own_le, own_f, own_n, hS⟩
 refine TW.at hS (TL.a m0 (TL.r (.hd .u3) (TL.val (r_asg .c) (TL.e (CT.cut (X := Nat) (fun gx => [(13, (i64 gx)), (12, v40), (8, v25), (0, (pt p 0)), (1, (pt r 0)), (2, vl), (3, vd)]) (fun gx => (slc 1 v40 own.length (own.map i64)) :: slc 3 v25 sy.length (syC sy) :: Wr p bs :: slc 1 vl ls.length (ls.map i64) :: slc 1 vd ds.length (ds.map i64) :: Rdr G r (N + 3 * (ls ++ ds).length + 3 * 19) :: R) (fun gx => 4 ≤ gx ∧ gx ≤ 19 ∧ (∀ i, gx ≤ i → i < 19 → own.getD (ordr.getD i 0) 0 = 0) ∧ (∀ x ∈ sy, LOk own x.1)) ?_ ?_)))))
 ·
  refine CT.block ?_
  obtain rfl : k = sy.length := by omega
  rw [List.take_length] at hnA
  have hlk := own_lok own_le own_l own_n (fun x hx => ⟨hnA x hx, (hsy.mem x hx).1⟩)
  refine CT.perm p1 (CT.conv (fun _ h => h.tail) ?_)
  refine CT.perm p1 (CT.perm p5 (CT.perm p5 (CT.perm p5 (CT.perm p5 (CT.perm p5 (CT.loop (X := Nat) (fun gx => [(13, (i64 gx)), (12, v40), (8, v25), (0, (pt p 0)), (1, (pt r 0)), (2, vl), (3, vd)]) (fun gx => (slc 1 v40 own.length (own.map i64)) :: slc 3 v25 sy.length (syC sy) :: Wr p bs :: slc 1 vl ls.length (ls.map i64) :: slc 1 vd ds.length (ds.map i64) :: Rdr G r (N + 3 * (ls ++ ds).length + 3 * 19) :: R) (fun gx => 4 ≤ gx ∧ gx ≤ 19 ∧ (∀ i, gx ≤ i → i < 19 → own.getD (ordr.getD i 0) 0 = 0)) (fun gx => gx) 19 (⟨by decide, by decide, fun i h1 h2 => by omega⟩) (.refl _) (.cons m0 (.cons m1 (.sl 6 5 rfl))) ?_))))))
  rintro many ⟨hm1, hm2, hm3⟩
  refine CT.seq (CT.seq (CT.peek m0 (by omega) ?_))
  intro pq pq_c pq_v pq_k pq_l
  refine CT.region (TL.m m0 (TL.val (n_gtr many 4 T0 .c) (TL.m m0 ?_)))
  by_cases g43 : 4 < many
  ·
   refine TL.sub (.eq m0 (congrArg Value.bool (decide_eq_true g43)) (.eq m1 (congrArg Value.bool (decide_eq_true g43)) (.cons m2 (.cons m3 (.cons m4 (.cons m5 (.cons m6 (.cons m7 (.cons m8 (.cons m9 .nil)))))))))) (TL.gv m0 (r_move T4) (TL.gcall m1 (r_call ce_38 .nil) (fun w hS => t38 hS) ?_))
   rintro _ w45 ⟨ob45, rfl, hS⟩
   refine TW.at hS (TL.gv m2 (r_move T5) (TL.gv m3 (n_sub many 1 9223372036854775808 T0 .c) (TL.gv m4 (r_ia (i := (many - 1)) (off' := (many - 1)) Tryz.underlying42 Tryz.sizeOf3 T2 T0 rfl (by omega) (by omega)) (TL.gv m5 (r_ld (v := (i64 (ordr.getD ((many - 1)) 0))) Tryz.isAgg3 m0 T0 (by omega) rfl) (TL.gv m6 (r_ia (i := (ordr.getD ((many - 1)) 0)) (off' := (ordr.getD ((many - 1)) 0)) Tryz.underlying42 Tryz.sizeOf3 (.te m5 pq_v) T0 rfl (by have := ordr_lt (many - 1) (by omega); omega) (by omega)) (TL.gv m7 (r_lds (u := (i64 (own.getD ((ordr.getD ((many - 1)) 0)) 0))) Tryz.isAgg3 m1 pq_v T0 (by rw [List.getElem?_map, getD_get (by have := ordr_lt (many - 1) (by omega); omega)]; rfl)) ?_))))))
   refine TL.gv m8 (n_eql ((own.getD ((ordr.getD ((many - 1)) 0)) 0)) 0 T0 .c rfl rfl) (TL.val (r_pickt T9 T0) (TL.b (.hd .u12) (CT.ifd m0 (fun c53 => ?_) (fun c53 => ?_))))
   ·
    refine CT.z (EX.seq (CT.block (CT.region (TL.m m0 (TL.val (n_sub many 1 9223372036854775808 T0 .c) (TL.rm .h2 (TL.a m0 (TL.x (.hd .u2) (EX.bnormal (EX.conv (fun _ h => h.tail) ?_))))))))))
    exact EX.again (many - 1) (⟨by omega, by omega, fun i h1 h2 => by rcases Nat.lt_or_ge i many with h | h; obtain rfl : i = many - 1 := (by omega); exact c53; exact hm3 i h h2⟩) (by omega) (.refl _) (.eq m0 (by first | rfl | (congr 1 <;> omega)) (.sl 1 6 rfl))
   refine CT.sub .u1 (CT.exit (EX.then_exit (EX.then_exit (EX.out (EX.conv (fun _ h => h.tail) ?_)))))
   exact EX.meet many (⟨hm1, hm2, hm3, hlk⟩) (.refl _) (.sl 0 7 rfl)
  refine TL.sub (.eq m0 (congrArg Value.bool (decide_eq_false g43)) (.eq m1 (congrArg Value.bool (decide_eq_false g43)) (.cons m2 (.cons m3 (.cons m4 (.cons m5 (.cons m6 (.cons m7 (.cons m8 (.cons m9 .nil)))))))))) (TL.gn m0 (TL.gn m0 (TL.gn m0 (TL.gn m0 (TL.gn m0 (TL.gn m0 (TL.gn m0 (TL.gn m0 (TL.gn m0 (TL.val (r_pickf T0 .c) (TL.b (.hd .u3) (CT.iff_ m0 ?_))))))))))))
  exact CT.sub .u1 (CT.exit (EX.then_exit (EX.then_exit (EX.out (EX.meet many (⟨hm1, hm2, hm3, hlk⟩) (.refl _) (.sl 0 7 rfl))))))
 rintro many ⟨hm1, hm2, hm3, hlk⟩
 refine CT.q (TL.m m3 (TL.m m6 (TL.val (r_lens Tryz.underlying42 T0 m3) (TL.val (n_sub ls.length 257 9223372036854775808 T0 .c) (TL.perm p2 (TL.call (r_call ce_37 (.cons T3 (.cons T0 (.cons .c .nil)))) (fun w hS => t37 p ((ls.length - 257)) 5 bs (by (try simp only [List.length_append, nbits_length, cbits_length, bits8_length, List.length_take, List.length_singleton, List.length_nil] at *); omega) (by omega) (by omega) hS) ?_))))))
 rintro _ w60 ⟨rfl, hS⟩
 refine TW.at hS (TL.r .u5 (TL.m m3 (TL.m m7 (TL.val (r_lens Tryz.underlying42 T0 m4) (TL.val (n_sub ds.length 1 9223372036854775808 T0 .c) (TL.call (r_call ce_37 (.cons T3 (.cons T0 (.cons .c .nil)))) (fun w hS => t37 p ((ds.length - 1)) 5 (bs ++ nbits 5 ((ls.length - 257))) (by (try simp only [List.length_append, nbits_length, cbits_length, bits8_length, List.length_take, List.length_singleton, List.length_nil] at *); omega) (by omega) (by omega) hS) ?_))))))
 rintro _ w65 ⟨rfl, hS⟩
 refine TW.at hS (TL.r .u5 (TL.m m3 (TL.m m1 (TL.val (n_sub many 4 9223372036854775808 T0 .c) (TL.call (r_call ce_37 (.cons T2 (.cons T0 (.cons .c .nil)))) (fun w hS => t37 p ((many - 4)) 4 ((bs ++ nbits 5 ((ls.length - 257))) ++ nbits 5 ((ds.length - 1))) (by (try simp only [List.length_append, nbits_length, cbits_length, bits8_length, List.length_take, List.length_singleton, List.length_nil] at *); omega) (by omega) (by omega) hS) ?_)))))
 rintro _ w69 ⟨rfl, hS⟩
 refine TW.at hS (TL.b .u4 (CT.seq (CT.q (TL.call (r_call ce_38 .nil) (fun w hS => t38 hS) ?_))))
 rintro _ w70 ⟨ob70, rfl, hS⟩
 refine TW.at hS (TL.m m1 (TL.val (r_slice (off' := 0) (m := many) (c' := 19) Tryz.underlying42 Tryz.sizeOf3 T1 .no (.so (j := many) T0 rfl) (by (try simp) <;> omega) (by (try simp) <;> omega) (by simp) (by simp) (by simp)) (TL.val (r_len Tryz.underlying42 T0) (TL.val (r_move .c) (TL.b (.hd (.hd (.hd .u2))) (CT.block (CT.perm p6 (CT.perm p6 (CT.perm p6 (CT.perm p4 (CT.perm p6 (CT.perm p6 (CT.loop (X := Nat × List Bool) (fun gx => [(74, (i64 gx.1)), (73, (i64 many)), (72, (.slice (some ⟨ob70, 0, none⟩) many 19)), (13, (i64 many)), (12, v40), (8, v25), (0, (pt p 0)), (1, (pt r 0)), (2, vl), (3, vd)]) (fun gx => (slc 1 v40 own.length (own.map i64)) :: slc 3 v25 sy.length (syC sy) :: Wr p gx.2 :: slc 1 vl ls.length (ls.map i64) :: slc 1 vd ds.length (ds.map i64) :: Rdr G r (N + 3 * (ls ++ ds).length + 3 * 19) :: blk ob70 19 (fun j => i64 (ordr.getD j 0)) :: R) (fun gx => gx.1 ≤ many ∧ gx.2 = bs ++ (nbits 5 (ls.length - 257) ++ (nbits 5 (ds.length - 1) ++ (nbits 4 (many - 4) ++ (ordr.take gx.1).flatMap (fun o => nbits 3 (own.getD o 0)))))) (fun gx => many - gx.1) ((0, ((bs ++ nbits 5 ((ls.length - 257))) ++ nbits 5 ((ds.length - 1))) ++ nbits 4 ((many - 4)))) (⟨Nat.zero_le _, by simp only [List.append_assoc, List.take_zero, List.flatMap_nil, List.append_nil]⟩) (.refl _) (.sl 0 10 rfl) ?_)))))))))))))
 rintro ⟨k, x⟩ ⟨hI4, hx⟩
 replace hI4 : k ≤ many := hI4
 replace hx : x = bs ++ (nbits 5 (ls.length - 257) ++ (nbits 5 (ds.length - 1) ++ (nbits 4 (many - 4) ++ (ordr.take k).flatMap (fun o => nbits 3 (own.getD o 0))))) := hx
 have hxl : x.length = bs.length + 14 + 3 * k := by rw [hx]; simp only [List.length_append, nbits_length, flat3_lengthb, List.length_take]; have : ordr.length = 19 := rfl; omega
 refine CT.q (TL.val (n_lss k many T0 T1) (TL.e (CT.seq (CT.ifd m0 (fun c75 => ?_) (fun c75 => ?_)))))
 ·
  have hk19 : k < ordr.length := by show k < 19; omega
  refine CT.z (EX.seq (CT.seq (CT.block (CT.q (TL.val (r_ia (i := k) (off' := k) Tryz.underlying42 Tryz.sizeOf3 T2 T0 rfl (by omega) (by omega)) (TL.val (r_ld (v := (i64 (ordr.getD k 0))) Tryz.isAgg3 m6 T0 (by omega) rfl) (TL.a m0 (TL.b (.hd .u2) ?_))))))))
  have hol := ordr_lt k (by omega)
  have ho7 := own_le _ (List.mem_of_getElem? (getD_get (l := own) (i := ordr.getD k 0) (by omega)))
  refine CT.peek m0 (by omega) ?_
  intro pr pr_c pr_v pr_k pr_l
  refine CT.region (TL.m m7 (TL.m m6 (TL.m m2 (TL.val (r_ia (i := (ordr.getD k 0)) (off' := (ordr.getD k 0)) Tryz.underlying42 Tryz.sizeOf3 (.te m1 pr_v) T0 rfl (by omega) (by omega)) (TL.val (r_lds (u := (i64 (own.getD ((ordr.getD k 0)) 0))) Tryz.isAgg3 m0 pr_v T0 (by rw [List.getElem?_map, getD_get (by omega)]; rfl)) ?_)))))
  refine TL.perm p2 (TL.call (r_call ce_37 (.cons T4 (.cons T0 (.cons .c .nil)))) (fun w hS => t37 p ((own.getD ((ordr.getD k 0)) 0)) 3 x (by (try simp only [List.length_append, nbits_length, cbits_length, bits8_length, List.length_take, List.length_singleton, List.length_nil] at *); omega) (by omega) (by omega) hS) ?_)
  rintro _ w83 ⟨rfl, hS⟩
  exact TW.at hS (TL.x .u6 (EX.bnormal (EX.seq (CT.region (TL.val (n_add k 1 9223372036854775808 T1 .c) (TL.rm .h2 (TL.m m0 (TL.x (.hd .u1) (EX.fold (A' := (Wr p (x ++ nbits 3 (own.getD (ordr.getD k 0) 0)))) a0 (Wr_eq (by simp only [List.append_assoc])) (EX.perm p6 (EX.perm p6 (EX.perm p6 (EX.perm p6 (EX.perm p4 (EX.perm p6 (EX.perm p6 (EX.again ((k + 1, x ++ nbits 3 (own.getD (ordr.getD k 0) 0))) (⟨(show k + 1 ≤ many by omega), (by show x ++ nbits 3 (own.getD (ordr.getD k 0) 0) = bs ++ (nbits 5 (ls.length - 257) ++ (nbits 5 (ds.length - 1) ++ (nbits 4 (many - 4) ++ (ordr.take (k + 1)).flatMap (fun o => nbits 3 (own.getD o 0))))); rw [hx, List.take_add_one, getD_get hk19]; simp only [Option.toList_some, List.flatMap_append, List.flatMap_cons, List.flatMap_nil, List.append_nil, List.append_assoc])⟩) (by show many - (k + 1) < many - k; omega) (.refl _) (.eq m0 (by first | rfl | (congr 1 <;> omega)) (.sl 2 9 rfl)))))))))))))))))))
 refine CT.sub .u1 (CT.exit (EX.then_exit (EX.then_exit (EX.out (EX.q (TL.m m4 (TL.call (r_call ce_79 (.cons T0 .nil)) (fun w hS => t79o (ls := own) (by omega) (by omega) hS) ?_)))))))
 rintro v86 w86 hS
 refine TW.at hS (TL.a m0 (TL.r (.hd .u2) (TL.m m6 (TL.val (r_lens Tryz.underlying117 T0 m2) (TL.val (r_move .c) (TL.e (CT.block ?_)))))))
 obtain rfl : many = k := by omega
 refine CT.perm p7 (CT.conv (fun _ h => h.tail) ?_)
 refine CT.loop (X := Nat × List Bool) (fun gx => [(89, (i64 gx.1)), (88, (i64 sy.length)), (87, v25), (16, v86), (12, v40), (8, v25), (0, (pt p 0)), (1, (pt r 0)), (2, vl), (3, vd)]) (fun gx => (slc 1 v86 own.length ((codes own).map i64)) :: slc 1 v40 own.length (own.map i64) :: slc 3 v25 sy.length (syC sy) :: Wr p gx.2 :: slc 1 vl ls.length (ls.map i64) :: slc 1 vd ds.length (ds.map i64) :: Rdr G r (N + 3 * (ls ++ ds).length + 3 * 19) :: R) (fun gx => gx.1 ≤ sy.length ∧ gx.2 = x ++ (sy.take gx.1).flatMap (symX own) ∧ (gx.2).length ≤ x.length + 22 * gx.1) (fun gx => sy.length - gx.1) ((0, x)) (⟨Nat.zero_le _, by simp only [List.take_zero, List.flatMap_nil, List.append_nil], Nat.le_refl _⟩) (.refl _) (.cons m0 (.cons m1 (.cons m2 (.cons m3 (.sl 8 6 rfl))))) ?_
 rintro ⟨k, y⟩ ⟨hI6, hy, hyl⟩
 replace hI6 : k ≤ sy.length := hI6
 replace hy : y = x ++ (sy.take k).flatMap (symX own) := hy
 replace hyl : y.length ≤ x.length + 22 * k := hyl
 refine CT.q (TL.val (n_lss k sy.length T0 T1) (TL.e (CT.seq (CT.ifd m0 (fun c90 => ?_) (fun c90 => ?_)))))
 ·
  refine CT.z (EX.seq (CT.seq (CT.block (CT.seq ?_))))
  have hsyl := hsy.le
  obtain ⟨⟨sk, sv⟩, hit⟩ : ∃ x, sy[k]? = some x := ⟨_, List.getElem?_eq_getElem c90⟩
  have hmem : (sk, sv) ∈ sy := List.mem_of_getElem? hit
  have hsk := (hsy.mem _ hmem).1; have hsv := (hsy.mem _ hmem).2
  replace hsk : sk ≤ 18 := hsk; replace hsv : sv < 2 ^ rnBits sk := hsv
  have htk : sy.take (k + 1) = sy.take k ++ [(sk, sv)] := by rw [List.take_add_one, hit]; rfl
  refine CT.peek m2 (by omega) ?_
  intro e_ e__c e__v e__k e__l
  refine CT.region (TL.val (r_ia (i := k) (off' := k * 3) Tryz.underlying117 Tryz.sizeOf120 (.te m2 e__v) T0 rfl (by omega) (by omega)) (TL.val (r_ld3 (c0 := (i64 sk)) (c1 := (i64 sv)) (c2 := (i64 (rnBits sk))) Tryz.isAgg120 Tryz.sizeOf120 T0 (fun _ hS => hS.slc_cell m2 e__v ((syC_get (i := 0) hit (by decide)).trans rfl)) (fun _ hS => hS.slc_cell m2 e__v ((syC_get (i := 1) hit (by decide)).trans rfl)) (fun _ hS => hS.slc_cell m2 e__v ((syC_get (i := 2) hit (by decide)).trans rfl))) (TL.w (r_alloc (F := lst [(.int .i64 0), (.int .i64 0), (.int .i64 0)]) Tryz.zeroValue120 rfl rfl lst_ok) ?_)))
  rintro _ w18 ⟨b18, rfl, hS⟩
  refine TW.at hS (TL.s (r_stagl (cs := [(i64 sk), (i64 sv), (i64 (rnBits sk))]) (l' := [(i64 sk), (i64 sv), (i64 (rnBits sk))]) Tryz.sizeOf120 T0 T1 rfl (by decide) ones3) (TL.b (.hd .u2) (CT.seq ?_)))
  have hlk1 := hlk _ hmem
  replace hlk1 : LOk own sk := hlk1
  have hcl := codeOf_lt hlk1 (by omega)
  have hl1 := hlk1.1; have hl2 := hlk1.2.1; have hl3 := hlk1.2.2
  have hrn : rnBits sk ≤ 7 := by unfold rnBits; split; decide; split; decide; split <;> decide
  have hsv2 : sv < 128 := Nat.lt_of_lt_of_le hsv (Nat.pow_le_pow_right (by decide) hrn)
  refine CT.peek m1 (by omega) ?_
  intro pa pa_c pa_v pa_k pa_l
  refine CT.peek m2 (by omega) ?_
  intro pb pb_c pb_v pb_k pb_l
  refine CT.draw 11 fm (by kernel_rfl) ?_
  refine TS.m m7 (TS.m m5 (TS.f 0 fo_120_0 m2 (TS.val (r_ld (v := (i64 sk)) Tryz.isAgg3 m0 T0 (by decide) rfl) (TS.val (r_ia (i := sk) (off' := sk) Tryz.underlying42 Tryz.sizeOf3 (.te m2 pa_v) T0 rfl (by omega) (by omega)) (TS.val (r_lds (u := (i64 (codeOf own sk))) Tryz.isAgg3 m1 pa_v T0 (by rw [List.getElem?_map, codes_get hlk1]; rfl)) ?_)))))
  refine TS.m m11 (TS.f 0 fo_120_0 m7 (TS.val (r_ld (v := (i64 sk)) Tryz.isAgg3 m0 T0 (by decide) rfl) (TS.val (r_ia (i := sk) (off' := sk) Tryz.underlying42 Tryz.sizeOf3 (.te m2 pb_v) T0 rfl (by omega) (by omega)) (TS.val (r_lds (u := (i64 (own.getD sk 0))) Tryz.isAgg3 m2 pb_v T0 (by rw [List.getElem?_map, lens_get hlk1]; rfl)) ?_))))
  refine TS.nil (TL.perm p4 (TL.call (r_call ce_40 (.cons T10 (.cons T5 (.cons T0 .nil)))) (fun w hS => t40 p ((codeOf own sk)) ((own.getD sk 0)) y (by (try simp only [List.length_append, nbits_length, cbits_length, bits8_length, List.length_take, List.length_singleton, List.length_nil] at *); omega) (by omega) (by omega) hS) ?_))
  rintro _ w104 ⟨rfl, hS⟩
  refine TW.at hS (TL.b .u12 (CT.region (TL.m m7 (TL.f 1 fo_120_1 m1 (TL.val (r_ld (v := (i64 sv)) Tryz.isAgg3 m1 T0 (by decide) rfl) (TL.f 2 fo_120_2 m3 (TL.val (r_ld (v := (i64 (rnBits sk))) Tryz.isAgg3 m1 T0 (by decide) rfl) (TL.call (r_call ce_37 (.cons T4 (.cons T2 (.cons T0 .nil)))) (fun w hS => t37 p sv ((rnBits sk)) (y ++ cbits ((own.getD sk 0)) ((codeOf own sk))) (by (try simp only [List.length_append, nbits_length, cbits_length, bits8_length, List.length_take, List.length_singleton, List.length_nil] at *); omega) (by omega) (by omega) hS) ?_))))))))
  rintro _ w110 ⟨rfl, hS⟩
  refine TW.at hS (TL.x .u6 (EX.bnormal (EX.seq (CT.region (TL.val (n_add k 1 9223372036854775808 T1 .c) (TL.rm .h2 (TL.m m0 (TL.x (.hd .u1) (EX.fold (A' := (Wr p (y ++ symX own (sk, sv)))) a0 (Wr_eq (by simp only [symX, symB, List.append_assoc])) (EX.perm p1 (EX.conv (fun _ h => h.tail) ?_)))))))))))
  exact EX.perm p6 (EX.perm p6 (EX.perm p6 (EX.perm p3 (EX.perm p6 (EX.perm p6 (EX.perm p6 (EX.again ((k + 1, y ++ symX own (sk, sv))) (⟨(show k + 1 ≤ sy.length by omega), (by show y ++ symX own (sk, sv) = x ++ (sy.take (k + 1)).flatMap (symX own); rw [hy, htk, List.flatMap_append, List.flatMap_cons, List.flatMap_nil, List.append_nil, List.append_assoc]), (by have := symX_length (own := own) (x := (sk, sv)) hlk1.2.2; show (y ++ symX own (sk, sv)).length ≤ _; rw [List.length_append]; omega)⟩) (by show sy.length - (k + 1) < sy.length - k; omega) (.refl _) (.eq m0 (by first | rfl | (congr 1 <;> omega)) (.sl 2 9 rfl)))))))))
 refine CT.sub .u1 (CT.exit (EX.then_exit (EX.then_exit (EX.out ?_))))
 obtain rfl : k = sy.length := by omega
 rw [List.take_length] at hy
 exact EX.perm p6 (EX.perm p6 (EX.perm p6 (EX.perm p6 (EX.end_ (.inr rfl) (res0 Tryz.results63) (fun _ hS => ⟨rfl, _, ⟨own, _, _, rfl, ⟨many, own_l, own_le, hm1, hm2, hm3, hl1, hl2, hd1, hd2, rfl⟩, own_f, hsy.toB hlk, h15, h256⟩, by have := hsy.le; rw [hy, hx] at hyl; rw [hx] at hxl; simp only [List.length_append] at *; omega, keep4c (hS.imp (Wr_eq (by rw [hy, hx]; simp only [List.append_assoc])))⟩)))))
end Go.Eng
namespace Go.Eng
open Go Go.Proofs Go.Infl
theorem or4 {f : Bool} : (Bool.toNat f ||| 4) = Bool.toNat f + 4 := by cases f <;> rfl
theorem zeros_get (j : Nat) (x : Value) (h : ((List.replicate 30 0).map i64)[j]? = some x) : (fun _ => i64 0) j = x := by
 rw [List.getElem?_map, List.getElem?_replicate] at h
 split at h
 ·
  exact Option.some.inj h
 cases h
theorem t55 (p r : Nat) (vi : Value) (its : List It) (f : Bool) (bs : List Bool) (N n0 : Nat) (hok : ItOk n0 its) (hil : its.length ≤ 4096) (hb : bs.length + 1100000 < 1099511627776) (hN : N + 1000000 < 1099511627000) {G : World} {R : List HProp} {w : World} (hS : Sat G w (Wr p bs :: slc 3 vi its.length (itC its) :: Rdr G r (N) :: R)) :
 CallsR Tryz.prog 55 #[(pt p 0), (pt r 0), vi, (.bool f)] w (fun v w' => v = .tuple #[] ∧ ∃ hd b1 ls ds, Head f hd ls ds ∧ ItBits ls ds its b1 ∧ (hd ++ (b1 ++ symB ls 256)).length ≤ 1000000 ∧ Sat G w' (Wr p (bs ++ (hd ++ (b1 ++ symB ls 256))) :: slc 3 vi its.length (itC its) :: Rdr G r (N + 1000000) :: R)) := by
 have hf := flag_lt f
 refine calls_in (n := 67) [(0, (pt p 0)), (1, (pt r 0)), (2, vi), (3, (.bool f))] Tryz.func55 rfl rfl hS args4 ?_
 refine CT.q (TL.m m2 (TL.perm p1 (TL.call (r_call ce_60 (.cons T0 .nil)) (fun w hS => t60 vi its n0 hok (by omega) hS) ?_)))
 rintro _ w17 ⟨lb, db, l, d, rfl, hI, hS⟩
 refine TW.at hS ?_
 have hll := hI.ll; have hdl := hI.dl
 refine TL.m m0 (TL.val (r_ext T0) (TL.val (r_ext T1) (TL.a m1 (TL.a m1 (TL.r (.hd (.hd .u5)) (TL.m m3 (TL.m m4 (TL.m m3 (TL.perm p4 (TL.call (r_call ce_61 (.cons T1 (.cons T0 (.cons .c .nil)))) (fun w hS => t61' r lb 15 (N) 286 l hll (by decide) (by decide) (by decide) (by decide) (by decide) (by omega) hS) ?_))))))))))
 rintro v23 w23 ⟨ol, ol_l, ol_le, ol_f, ol_n, hS⟩
 refine TW.at hS (TL.perm p2 (TL.call (r_call ce_78 (.cons T3 (.cons T0 (.cons .c .nil)))) (fun w hS => t78 r (N + 3 * 286) 257 v23 ol (by decide) (by omega) (by omega) (by omega) hS) ?_))
 rintro v24 w24 ⟨m24_, m24_a, m24_b, m24_z, hS⟩
 refine TW.at hS (TL.a m0 (TL.r (.hd (.tl (.tl (.tl (.tl (.tl (.hd .u1))))))) (TL.m m3 (TL.m m2 (TL.perm p3 (TL.perm p2 (TL.call (r_call ce_61 (.cons T1 (.cons T0 (.cons .c .nil)))) (fun w hS => t61' r db 15 (N + 3 * 286 + 1) 30 d hdl (by decide) (by decide) (by decide) (by decide) (by decide) (by omega) hS) ?_)))))))
 rintro v27 w27 ⟨od, od_l, od_le, od_f, od_n, hS⟩
 refine TW.at hS (TL.a m0 (TL.r (.hd (.tl (.tl (.tl (.hd .u1))))) (TL.val (r_asg .c) (TL.e (CT.seq (CT.q (TL.m m5 (TL.val (r_lens Tryz.underlying62 T0 m5) (TL.val (r_move .c) (TL.e (CT.block (CT.perm p1 (CT.conv (fun _ h => h.tail) ?_)))))))))))))
 refine CT.perm p3 (CT.conv (fun _ h => h.tail) ?_)
 refine CT.perm p1 (CT.perm p4 (CT.perm p2 (CT.perm p3 (CT.perm p4 (CT.loop (X := Nat × Bool) (fun gx => [(30, (i64 gx.1)), (12, (.bool gx.2)), (29, (i64 its.length)), (28, vi), (11, v27), (10, v24), (0, (pt p 0)), (1, (pt r 0)), (2, vi), (3, (.bool f))]) (fun gx => (slc 3 vi its.length (itC its)) :: slc 1 v24 ((ol.take m24_).length) ((ol.take m24_).map i64) :: slc 1 v27 od.length (od.map i64) :: Wr p bs :: Rdr G r (N + 3 * 286 + 1 + 3 * 30) :: R) (fun gx => gx.1 ≤ its.length ∧ (gx.2 = false → Lits (its.take gx.1))) (fun gx => its.length - gx.1) ((0, false)) (⟨Nat.zero_le _, fun _ x hx => by simp at hx⟩) (.refl _) (.cons m0 (.cons m3 (.cons m1 (.cons m2 (.sl 4 6 rfl))))) ?_)))))
 rintro ⟨k, q⟩ ⟨hI1, hq⟩
 replace hI1 : k ≤ its.length := hI1
 replace hq : q = false → Lits (its.take k) := hq
 refine CT.q (TL.val (n_lss k its.length T0 T2) (TL.e (CT.seq (CT.ifd m0 (fun c31 => ?_) (fun c31 => ?_)))))
 ·
  refine CT.z (EX.seq (CT.seq (CT.block (CT.seq ?_))))
  obtain ⟨it, hit⟩ : ∃ it, its[k]? = some it := ⟨_, List.getElem?_eq_getElem c31⟩
  have hok1 := hok.at_ hit
  refine CT.peek m0 (by omega) ?_
  intro d_ d__c d__v d__k d__l
  rcases it with y | ⟨n, m⟩
  ·
   refine CT.region (TL.val (r_ia (i := k) (off' := k * 3) Tryz.underlying62 Tryz.sizeOf65 (.te m3 d__v) T0 rfl (by omega) (by omega)) (TL.val (r_ld3 (c0 := (u8 y)) (c1 := (.int .i64 0)) (c2 := (.int .i64 0)) Tryz.isAgg65 Tryz.sizeOf65 T0 (fun _ hS => hS.slc_cell m0 d__v ((itC_get (i := 0) hit (by decide)).trans rfl)) (fun _ hS => hS.slc_cell m0 d__v ((itC_get (i := 1) hit (by decide)).trans rfl)) (fun _ hS => hS.slc_cell m0 d__v ((itC_get (i := 2) hit (by decide)).trans rfl))) (TL.w (r_alloc (F := lst [(.int .u8 0), (.int .i64 0), (.int .i64 0)]) Tryz.zeroValue65 rfl rfl lst_ok) ?_)))
   rintro _ w14 ⟨b14, rfl, hS⟩
   refine TW.at hS (TL.s (r_stagl (cs := [(u8 y), (.int .i64 0), (.int .i64 0)]) (l' := [(u8 y), (.int .i64 0), (.int .i64 0)]) Tryz.sizeOf65 T0 T1 rfl (by decide) ones3) (TL.b (.hd .u2) (CT.region (TL.m m2 (TL.m m0 ?_)))))
   by_cases g35 : q = true
   ·
    refine TL.sub (.eq m0 (congrArg Value.bool g35) (.eq m1 (congrArg Value.bool g35) (.cons m2 (.cons m3 (.eq m4 (congrArg Value.bool g35) (.cons m5 (.cons m6 (.cons m7 (.cons m8 (.cons m9 (.cons m10 (.cons m11 (.cons m12 .nil))))))))))))) (TL.gn m0 (TL.gn m0 (TL.gn m0 (TL.val (r_pickt T0 .c) (TL.rm .h5 (TL.a m0 (TL.x (.hd .u3) (EX.bnormal (EX.seq (CT.region (TL.val (n_add k 1 9223372036854775808 T2 .c) (TL.rm .h3 (TL.m m0 (TL.x (.hd .u1) (EX.conv (fun _ h => h.tail) ?_)))))))))))))))
    exact EX.again ((k + 1, true)) (⟨show k + 1 ≤ its.length by omega, fun h => absurd (show true = false from h) (by decide)⟩) (by show its.length - (k + 1) < its.length - k; omega) (.refl _) (.eq m0 (by first | rfl | (congr 1 <;> omega) | (exact congrArg Value.bool (decide_eq_true (by omega))) | (exact congrArg Value.bool (decide_eq_false (by omega)))) (.cons m1 (.sl 3 8 rfl)))
   refine TL.sub (.eq m0 (congrArg Value.bool (Bool.eq_false_iff.2 g35)) (.eq m1 (congrArg Value.bool (Bool.eq_false_iff.2 g35)) (.cons m2 (.cons m3 (.eq m4 (congrArg Value.bool (Bool.eq_false_iff.2 g35)) (.cons m5 (.cons m6 (.cons m7 (.cons m8 (.cons m9 (.cons m10 (.cons m11 (.cons m12 .nil))))))))))))) (TL.gv m0 (r_fa (off' := 1) fo_65_1 T2) (TL.gv m1 (r_ld (v := (.int .i64 0)) Tryz.isAgg3 m0 T0 (by decide) rfl) (TL.gv m2 (show Run _ _ _ _ _ _ (.bool false) from n_gtr 0 0 T0 .c rfl rfl) (TL.val (r_pickf T3 T0) (TL.rm .h8 (TL.a m0 (TL.x (.hd .u6) (EX.bnormal (EX.seq (CT.region (TL.val (n_add k 1 9223372036854775808 T2 .c) (TL.rm .h3 (TL.m m0 (TL.x (.hd .u1) (EX.conv (fun _ h => h.tail) ?_)))))))))))))))
   exact EX.again ((k + 1, false)) (⟨show k + 1 ≤ its.length by omega, fun _ => (hq (by first | assumption | rfl | (simpa using g35))).put hit⟩) (by show its.length - (k + 1) < its.length - k; omega) (.refl _) (.eq m0 (by first | rfl | (congr 1 <;> omega) | (exact congrArg Value.bool (decide_eq_true (by omega))) | (exact congrArg Value.bool (decide_eq_false (by omega)))) (.cons m1 (.sl 3 8 rfl)))
  obtain ⟨⟨ok1, ok2, ok3, ok4, ok5⟩, -⟩ := hok1
  refine CT.region (TL.val (r_ia (i := k) (off' := k * 3) Tryz.underlying62 Tryz.sizeOf65 (.te m3 d__v) T0 rfl (by omega) (by omega)) (TL.val (r_ld3 (c0 := (.int .u8 0)) (c1 := (i64 n)) (c2 := (i64 m)) Tryz.isAgg65 Tryz.sizeOf65 T0 (fun _ hS => hS.slc_cell m0 d__v ((itC_get (i := 0) hit (by decide)).trans rfl)) (fun _ hS => hS.slc_cell m0 d__v ((itC_get (i := 1) hit (by decide)).trans rfl)) (fun _ hS => hS.slc_cell m0 d__v ((itC_get (i := 2) hit (by decide)).trans rfl))) (TL.w (r_alloc (F := lst [(.int .u8 0), (.int .i64 0), (.int .i64 0)]) Tryz.zeroValue65 rfl rfl lst_ok) ?_)))
  rintro _ w14 ⟨b14, rfl, hS⟩
  refine TW.at hS (TL.s (r_stagl (cs := [(.int .u8 0), (i64 n), (i64 m)]) (l' := [(.int .u8 0), (i64 n), (i64 m)]) Tryz.sizeOf65 T0 T1 rfl (by decide) ones3) (TL.b (.hd .u2) (CT.region (TL.m m2 (TL.m m0 ?_)))))
  by_cases g35 : q = true
  ·
   refine TL.sub (.eq m0 (congrArg Value.bool g35) (.eq m1 (congrArg Value.bool g35) (.cons m2 (.cons m3 (.eq m4 (congrArg Value.bool g35) (.cons m5 (.cons m6 (.cons m7 (.cons m8 (.cons m9 (.cons m10 (.cons m11 (.cons m12 .nil))))))))))))) (TL.gn m0 (TL.gn m0 (TL.gn m0 (TL.val (r_pickt T0 .c) (TL.rm .h5 (TL.a m0 (TL.x (.hd .u3) (EX.bnormal (EX.seq (CT.region (TL.val (n_add k 1 9223372036854775808 T2 .c) (TL.rm .h3 (TL.m m0 (TL.x (.hd .u1) (EX.conv (fun _ h => h.tail) ?_)))))))))))))))
   exact EX.again ((k + 1, true)) (⟨show k + 1 ≤ its.length by omega, fun h => absurd (show true = false from h) (by decide)⟩) (by show its.length - (k + 1) < its.length - k; omega) (.refl _) (.eq m0 (by first | rfl | (congr 1 <;> omega) | (exact congrArg Value.bool (decide_eq_true (by omega))) | (exact congrArg Value.bool (decide_eq_false (by omega)))) (.cons m1 (.sl 3 8 rfl)))
  refine TL.sub (.eq m0 (congrArg Value.bool (Bool.eq_false_iff.2 g35)) (.eq m1 (congrArg Value.bool (Bool.eq_false_iff.2 g35)) (.cons m2 (.cons m3 (.eq m4 (congrArg Value.bool (Bool.eq_false_iff.2 g35)) (.cons m5 (.cons m6 (.cons m7 (.cons m8 (.cons m9 (.cons m10 (.cons m11 (.cons m12 .nil))))))))))))) (TL.gv m0 (r_fa (off' := 1) fo_65_1 T2) (TL.gv m1 (r_ld (v := (i64 n)) Tryz.isAgg3 m0 T0 (by decide) rfl) (TL.gv m2 (n_gtr n 0 T0 .c) (TL.val (r_pickf T3 T0) (TL.rm .h8 (TL.a m0 (TL.x (.hd .u6) (EX.bnormal (EX.seq (CT.region (TL.val (n_add k 1 9223372036854775808 T2 .c) (TL.rm .h3 (TL.m m0 (TL.x (.hd .u1) (EX.conv (fun _ h => h.tail) ?_)))))))))))))))
  exact EX.again ((k + 1, true)) (⟨show k + 1 ≤ its.length by omega, fun h => absurd (show true = false from h) (by decide)⟩) (by show its.length - (k + 1) < its.length - k; omega) (.refl _) (.eq m0 (by first | rfl | (congr 1 <;> omega) | (exact congrArg Value.bool (decide_eq_true (by omega))) | (exact congrArg Value.bool (decide_eq_false (by omega)))) (.eq m1 (by first | rfl | (congr 1 <;> omega) | (exact congrArg Value.bool (decide_eq_true (by omega))) | (exact congrArg Value.bool (decide_eq_false (by omega)))) (.sl 3 8 rfl)))
 refine CT.sub .u1 (CT.exit (EX.then_exit (EX.then_exit (EX.out (EX.seq (CT.cut (X := Value × List Nat) (fun gx => [(11, gx.1), (10, v24), (0, (pt p 0)), (1, (pt r 0)), (2, vi), (3, (.bool f))]) (fun gx => (slc 3 vi its.length (itC its)) :: slc 1 v24 ((ol.take m24_).length) ((ol.take m24_).map i64) :: slc 1 gx.1 ((gx.2).length) ((gx.2).map i64) :: Wr p bs :: Rdr G r (N + 3 * 286 + 1 + 3 * 30 + 1) :: R) (fun gx => (gx.2).length = 30 ∧ (∀ x ∈ gx.2, x ≤ 15) ∧ (Full gx.2 ∨ ∀ x ∈ gx.2, x = 0) ∧ (Lits its ∨ ∀ i, d[i]? = some true → 1 ≤ (gx.2).getD i 0)) ?_ ?_))))))
 ·
  refine CT.cut (X := Bool) (fun gx => [(47, (.bool gx)), (11, v27), (10, v24), (0, (pt p 0)), (1, (pt r 0)), (2, vi), (3, (.bool f))]) (fun gx => (slc 3 vi its.length (itC its)) :: slc 1 v24 ((ol.take m24_).length) ((ol.take m24_).map i64) :: slc 1 v27 od.length (od.map i64) :: Wr p bs :: Rdr G r (N + 3 * 286 + 1 + 3 * 30 + 1) :: R) (fun gx => gx = true → Lits its) ?_ ?_
  ·
   obtain rfl : k = its.length := by omega
   rw [List.take_length] at hq
   rcases q with _ | _
   ·
    refine CT.region (TL.m m1 (TL.val (r_notf T0) (TL.m m0 (TL.gv m0 (r_move T10) (TL.perm p4 (TL.gcall m1 (r_call ce_39 (.cons T0 (.cons .c .nil))) (fun w hS => t39 r 2 (N + 3 * 286 + 1 + 3 * 30) (by omega) (by omega) hS) ?_))))))
    rintro _ w45 ⟨y45, rfl, y45_l, hS⟩
    exact TW.at hS (TL.gv m2 (n_eql y45 0 T0 .c) (TL.val (r_pickt T3 T0) (TL.x (.hd .u6) (EX.perm p4 (EX.perm p4 (EX.perm p4 (EX.perm p4 (EX.meet (decide (y45 = 0)) (fun _ => hq rfl) (.refl _) (.eq m0 (by first | rfl | (congr 1 <;> omega) | (exact congrArg Value.bool (decide_eq_true (by omega))) | (exact congrArg Value.bool (decide_eq_false (by omega)))) (.sl 5 6 rfl))))))))))
   exact CT.region (TL.m m1 (TL.val (r_nott T0) (TL.m m0 (TL.gn m0 (TL.gn m0 (TL.gn m0 (TL.val (r_pickf T0 .c) (TL.x (.hd .u3) (EX.fold (A' := (Rdr G r (N + 3 * 286 + 1 + 3 * 30 + 1))) a4 (Rdr_mono (by omega)) (EX.meet false (fun h => absurd h (by decide)) (.refl _) (.cons m0 (.sl 5 6 rfl))))))))))))
  rintro z hz
  refine CT.iff m0 (fun c47 => ?_) (fun c47 => ?_)
  ·
   refine CT.sub .u1 (CT.region (TL.w (r_make (l := 30) (c := 30) Tryz.underlying42 Tryz.sizeOf3 ⟨_, Tryz.typeInfo3, rfl⟩ Tryz.zeroValue3 rfl .c .c rfl rfl (by omega) (by decide) (by omega)) ?_))
   rintro _ w48 ⟨b48, rfl, hS⟩
   refine TW.at hS (TL.rm .h1 (TL.a m0 (TL.x (.hd .u1) (EX.fold (A' := (slc 1 (.slice (some ⟨b48, 0, none⟩) 30 30) ((List.replicate 30 0).length) ((List.replicate 30 0).map i64))) a0 (mk_slc1 rfl (by decide) zeros_get) (EX.perm p3 (EX.conv (fun _ h => h.tail) ?_))))))
   exact EX.perm p4 (EX.perm p4 (EX.perm p2 (EX.perm p4 (EX.perm p4 (EX.meet (((.slice (some ⟨b48, 0, none⟩) 30 30), List.replicate 30 0)) (⟨List.length_replicate, fun x hx => by rw [(List.mem_replicate.1 hx).2]; exact Nat.zero_le _, .inr fun x hx => (List.mem_replicate.1 hx).2, .inl (hz c47)⟩) (.refl _) (.sl 0 6 rfl))))))
  exact CT.z (EX.meet ((v27, od)) (⟨od_l, od_le, .inl od_f, .inr od_n⟩) (.refl _) (.sl 0 6 rfl))
 rintro ⟨vd, ds⟩ ⟨hds, hd15, hdf, hdn⟩
 replace hds : ds.length = 30 := hds
 replace hd15 : ∀ x ∈ ds, x ≤ 15 := hd15
 replace hdf : Full ds ∨ ∀ x ∈ ds, x = 0 := hdf
 replace hdn : Lits its ∨ ∀ i, d[i]? = some true → 1 ≤ ds.getD i 0 := hdn
 refine CT.q (TL.m m3 (TL.m m1 (TL.perm p2 (TL.perm p4 (TL.call (r_call ce_78 (.cons T1 (.cons T0 (.cons .c .nil)))) (fun w hS => t78 r (N + 3 * 286 + 1 + 3 * 30 + 1) 1 vd ds (by decide) (by omega) (by omega) (by omega) hS) ?_)))))
 rintro v51 w51 ⟨m51_, m51_a, m51_b, m51_z, hS⟩
 refine TW.at hS (TL.rm .h3 (TL.a m0 (TL.r (.hd .u3) (TL.m m2 (TL.m m6 (TL.call (r_call ce_77 (.cons T0 .nil)) (fun w hS => t77 f hS) ?_))))))
 rintro _ w54 ⟨rfl, hS⟩
 refine TW.at hS (TL.val (n_or ((Bool.toNat f)) 4 9223372036854775808 T0 .c rfl rfl (by omega) (by omega)) (TL.perm p4 (TL.call (r_call ce_37 (.cons T3 (.cons T0 (.cons .c .nil)))) (fun w hS => t37 p (((Bool.toNat f) ||| 4)) 3 bs (by (try simp only [List.length_append, nbits_length, cbits_length, bits8_length, List.length_take, List.length_singleton, List.length_nil] at *); omega) (by have := flag_lt f; have := Nat.or_lt_two_pow (n := 3) (x := Bool.toNat f) (y := 4) (by omega) (by decide); omega) (by omega) hS) ?_)))
 rintro _ w56 ⟨rfl, hS⟩
 refine TW.at hS (TL.b (.tl (.tl (.tl (.tl (.tl (.hd (.hd (.hd (.hd (.hd .u1)))))))))) (CT.seq ?_))
 have hl1 : (ol.take m24_).length = m24_ := by rw [List.length_take]; omega
 have hl2 : (ds.take m51_).length = m51_ := by rw [List.length_take]; omega
 have h15 : ∀ x ∈ (ol.take m24_) ++ (ds.take m51_), x ≤ 15 := fun x hx => (List.mem_append.1 hx).elim (fun h => ol_le x (List.mem_of_mem_take h)) (fun h => hd15 x (List.mem_of_mem_take h))
 have h256 : LOk (ol.take m24_) 256 := trim_lok ol_le m24_z (ol_n _ hI.eob)
 have hneed : ∀ x ∈ its, Needs (ol.take m24_) (ds.take m51_) x := hI.needs (fun i hi => trim_lok ol_le m24_z (ol_n i hi)) (hdn.imp id fun h i hi => trim_lok hd15 m51_z (h i hi))
 refine CT.region (TL.m m2 (TL.m m4 (TL.m m3 (TL.m m3 (TL.perm p2 (TL.perm p2 (TL.perm p4 (TL.perm p3 (TL.call (r_call ce_63 (.cons T3 (.cons T2 (.cons T1 (.cons T0 .nil))))) (fun w hS => t63 p r (N + 3 * 286 + 1 + 3 * 30 + 1 + 1) v24 v51 ((ol.take m24_)) (((ds).take m51_)) (bs ++ nbits 3 (((Bool.toNat f) ||| 4))) (by omega) (by omega) (by omega) (by omega) h15 h256 (by (try simp only [List.length_append, nbits_length, cbits_length, bits8_length, List.length_take, List.length_singleton, List.length_nil] at *); omega) (by omega) hS) ?_)))))))))
 rintro _ w61 ⟨rfl, hb, htold, hbl, hS⟩
 refine TW.at hS (TL.b .u5 (CT.region (TL.m m2 (TL.m m5 (TL.m m3 (TL.m m3 (TL.perm p2 (TL.perm p2 (TL.perm p4 (TL.perm p3 (TL.call (r_call ce_64 (.cons T3 (.cons T2 (.cons T1 (.cons T0 .nil))))) (fun w hS => t64 p vi v24 v51 its ((ol.take m24_)) (((ds).take m51_)) ((bs ++ nbits 3 (((Bool.toNat f) ||| 4))) ++ hb) n0 hok hil (by omega) (by omega) (by omega) h256 hneed (by (try simp only [List.length_append, nbits_length, cbits_length, bits8_length, List.length_take, List.length_singleton, List.length_nil] at *); omega) hS) ?_)))))))))))
 rintro _ w66 ⟨rfl, b2, ⟨b1, hb2, hib⟩, hbl2, hS⟩
 exact TW.at hS (TL.x .u5 (EX.perm p4 (EX.perm p2 (EX.perm p2 (EX.end_ (.inr rfl) (res0 Tryz.results55) (fun _ hS => ⟨rfl, nbits 3 (Bool.toNat f + 4) ++ hb, b1, _, _, .dyn htold (trim_full ol_f ol_le m24_z) (hdf.imp (fun h => trim_full h hd15 m51_z) fun h x hx => h x (List.mem_of_mem_take hx)), hib, by rw [hb2] at hbl2; simp only [List.length_append, nbits_length] at hbl2 ⊢; omega, (((keep3b hS).imp (Wr_eq (by rw [or4, hb2]; simp only [List.append_assoc]))).perm p2 |>.imp (Rdr_mono (by simp only [List.length_append]; omega)) |>.perm p2 |>.perm p2)⟩))))))
end Go.Eng
namespace Go.Eng
open Go Go.Proofs Go.Infl
theorem ItOk.mono : ∀ {l : List It} {n m : Nat}, ItOk n l → n ≤ m → ItOk m l
 | [], _, _, _, _ => trivial
 | .lit b :: r, n, m, H, h => ⟨H.1, ItOk.mono (l := r) H.2 (by omega)⟩
 | .mat l d :: r, n, m, H, h => ⟨⟨H.1.1, H.1.2.1, H.1.2.2.1, Nat.le_trans H.1.2.2.2.1 h, H.1.2.2.2.2⟩, ItOk.mono (l := r) H.2 (by omega)⟩
theorem copyM_pre2 (a : List Nat) {h : List Nat} {d : Nat} (h1 : 1 ≤ d) (h2 : d ≤ h.length) : ∀ n, copyM (a ++ h) d n = a ++ copyM h d n
 | 0 => rfl
 | n + 1 => by
  rw [copyM, copyM, copyM_pre2 a h1 h2 n, List.append_assoc]
  congr 3
  rw [List.length_append, List.getD_eq_getElem?_getD, List.getD_eq_getElem?_getD, List.getElem?_append_right (by rw [copyM_length]; omega)]
  congr 2
  rw [copyM_length]; omega
theorem gives_pre (a : List Nat) : ∀ {l : List It} {h : List Nat}, ItOk h.length l → gives (a ++ h) l = a ++ gives h l
 | [], _, _ => rfl
 | .lit b :: r, h, H => by rw [gives, gives, List.append_assoc, gives_pre a (l := r) (h := h ++ [b]) (by rw [List.length_append]; exact H.2)]
 | .mat l d :: r, h, H => by
  rw [gives, gives, copyM_pre2 a H.1.2.2.1 H.1.2.2.2.1, gives_pre a (l := r) (h := copyM h d l) (by rw [copyM_length]; exact H.2)]
theorem t54' (p : Nat) (vi : Value) (its : List It) (f : Bool) (bs : List Bool) (n0 : Nat) (hok : ItOk n0 its) (hil : its.length ≤ 4096) (hb : bs.length + 1000010 < 1099511627776) {G : World} {R : List HProp} {w : World} (hS : Sat G w (Wr p bs :: slc 3 vi its.length (itC its) :: R)) :
 CallsR Tryz.prog 54 #[(pt p 0), vi, (.bool f)] w (fun v w' => v = .tuple #[] ∧ ∃ (hd b1 : List Bool) (ls ds : List Nat), Head f hd ls ds ∧ ItBits ls ds its b1 ∧ (hd ++ (b1 ++ symB ls 256)).length ≤ 1000000 ∧ Sat G w' (Wr p (bs ++ (hd ++ (b1 ++ symB ls 256))) :: slc 3 vi its.length (itC its) :: R)) :=
 (t54 p vi its f bs n0 hok hil hb hS).mono fun v w' ⟨e, b, ⟨b1, hb, hi⟩, hl, hS⟩ => ⟨e, _, b1, _, _, .fixed, hi, by rw [← hb, List.length_append, nbits_length]; omega, by rw [← hb]; exact hS⟩
theorem blk_post {G w : World} {R : List HProp} {p r N most be : Nat} {v : Value} {h : List Nat} {bs hd b1 : List Bool} {its : List It} {ls ds : List Nat} {f : Bool} (hbe : be ≤ h.length) (hok : ItOk (h.length - be) its) (hil : its.length ≤ most) (hm : most ≤ 200) (hh : Head f hd ls ds) (hi : ItBits ls ds its b1) (hbl : (hd ++ (b1 ++ symB ls 256)).length ≤ 1073741824)
 (hS : Sat G w (slc 1 v (gives h its).length ((gives h its).map u8) :: Wr p (bs ++ (hd ++ (b1 ++ symB ls 256))) :: Rdr G r (N + 1073741824) :: R)) :
 ∃ (h1 : List Nat) (b : List Bool), IsBlk bs.length f (h.drop be) b h1 ∧ h1.length ≤ (h.drop be).length + 258 * most ∧ b.length ≤ 1073741824 ∧ Sat G w (slc 1 v (h.take be ++ h1).length ((h.take be ++ h1).map u8) :: Wr p (bs ++ b) :: Rdr G r (N + 1073741824) :: R) := by
 have hdl : (h.drop be).length = h.length - be := List.length_drop
 have hok' : ItOk (h.drop be).length its := by rw [hdl]; exact hok
 have hg : gives h its = h.take be ++ gives (h.drop be) its := by rw [← gives_pre _ hok', List.take_append_drop]
 rw [hg] at hS
 refine ⟨gives (h.drop be) its, _, .huff hh hok' hi, ?_, hbl, hS⟩
 rw [gives_length]
 have := itSize_le its _ hok'
 have : 258 * its.length ≤ 258 * most := Nat.mul_le_mul_left _ hil
 omega
theorem t46_1 (r p N : Nat) (vo : Value) (h : List Nat) (bs : List Bool) (f : Bool) (be most : Nat) (hm : most ≤ 200) (hbe : be ≤ h.length) (hl : h.length < 1048576) (hb : bs.length < 68719476736) (hN : N < 68719476736) {G : World} {R : List HProp} {w : World} (hS : Sat G w (slc 1 vo h.length (h.map u8) :: Wr p bs :: Rdr G r (N) :: R)) :
 CallsR Tryz.prog 46 #[(pt r 0), (pt p 0), vo, (.int .i64 (-((be : Nat) : Int))), (.int .i64 1), (i64 most), (.bool f)] w (fun v w' => ∃ (h1 : List Nat) (b : List Bool), IsBlk bs.length f (h.drop be) b h1 ∧ h1.length ≤ (h.drop be).length + 258 * most ∧ b.length ≤ 1073741824 ∧ Sat G w' (slc 1 v (h.take be ++ h1).length ((h.take be ++ h1).map u8) :: Wr p (bs ++ b) :: Rdr G r (N + 1073741824) :: R)) := by
 refine calls_in (n := 56) [(0, (pt r 0)), (1, (pt p 0)), (2, vo), (3, (.int .i64 (-((be : Nat) : Int)))), (4, (.int .i64 1)), (5, (i64 most)), (6, (.bool f))] Tryz.func46 rfl rfl hS args7 ?_
 refine CT.q (TL.val (r_asg .c) (TL.e (CT.seq (CT.q (TL.m m5 (TL.val (show Run _ _ _ _ _ _ (.bool false) from n_eql 1 3 T0 .c rfl rfl) (TL.b (.hd .u1) (CT.iff_ m0 ?_))))))))
 refine CT.z (EX.seq (CT.seq (CT.q (TL.m m5 (TL.val (show Run _ _ _ _ _ _ (.bool false) from n_eql 1 0 T0 .c rfl rfl) (TL.b (.hd .u1) (CT.iff_ m0 ?_)))))))
 refine CT.z (EX.q (TL.m m1 (TL.m m4 (TL.val (r_lens Tryz.underlying22 T0 m0) (TL.m m7 (TL.val (r_add (z := (((h.length - be) : Nat) : Int)) T1 T0 (wi (by omega))) (TL.m m11 (TL.perm p2 (TL.call (r_call ce_59 (.cons T5 (.cons T1 (.cons T0 .nil)))) (fun w hS => t59 r ((h.length - be)) most (N) (by omega) (by omega) (by omega) hS) ?_)))))))))
 rintro v41 w41 ⟨its, itl, itok, hS⟩
 refine TW.at hS (TL.a m0 (TL.b (.hd (.tl (.tl (.tl (.tl (.tl (.tl (.tl (.hd (.hd (.hd (.hd .u1)))))))))))) (CT.seq (CT.q (TL.m m5 (TL.val (show Run _ _ _ _ _ _ (.bool true) from n_eql 1 1 T0 .c rfl rfl) (TL.b (.hd .u1) (CT.ift m0 ?_))))))))
 refine CT.sub .u1 (CT.region (TL.m m3 (TL.m m1 (TL.m m9 (TL.perm p3 (TL.call (r_call ce_54 (.cons T2 (.cons T1 (.cons T0 .nil)))) (fun w hS => t54' p v41 its f bs _ itok (by omega) (by omega) hS) ?_))))))
 rintro _ w47 ⟨rfl, hd, b1, ls, ds, hhd, hib, hbl, hS⟩
 refine TW.at hS (TL.r .u4 (TL.m m4 (TL.m m1 (TL.perm p1 (TL.perm p3 (TL.call (r_call ce_56 (.cons T1 (.cons T0 .nil))) (fun w hS => t56 vo v41 h its _ itok (by omega) hl (by omega) hS) ?_))))))
 rintro v55 w55 hS
 refine TW.at hS (TL.rm .h4 (TL.a m0 (TL.b (.hd .u3) (CT.ret (EX.perm p3 (EX.perm p3 (EX.perm p2 (EX.perm p3 (EX.conv (fun _ h => h.tail) ?_)))))))))
 exact EX.perm p2 (EX.perm p2 (EX.perm p2 (EX.end_ (.inl rfl) (res1 Tryz.results46 m0) (fun _ hS => blk_post hbe itok itl hm hhd hib (by omega) (hS.perm p2 |>.imp (Rdr_mono (N' := N + 1073741824) (by omega)) |>.perm p2 |>.perm p2)))))
theorem t46_2 (r p N : Nat) (vo : Value) (h : List Nat) (bs : List Bool) (f : Bool) (be most : Nat) (hm : most ≤ 200) (hbe : be ≤ h.length) (hl : h.length < 1048576) (hb : bs.length < 68719476736) (hN : N < 68719476736) {G : World} {R : List HProp} {w : World} (hS : Sat G w (slc 1 vo h.length (h.map u8) :: Wr p bs :: Rdr G r (N) :: R)) :
 CallsR Tryz.prog 46 #[(pt r 0), (pt p 0), vo, (.int .i64 (-((be : Nat) : Int))), (.int .i64 2), (i64 most), (.bool f)] w (fun v w' => ∃ (h1 : List Nat) (b : List Bool), IsBlk bs.length f (h.drop be) b h1 ∧ h1.length ≤ (h.drop be).length + 258 * most ∧ b.length ≤ 1073741824 ∧ Sat G w' (slc 1 v (h.take be ++ h1).length ((h.take be ++ h1).map u8) :: Wr p (bs ++ b) :: Rdr G r (N + 1073741824) :: R)) := by
 refine calls_in (n := 56) [(0, (pt r 0)), (1, (pt p 0)), (2, vo), (3, (.int .i64 (-((be : Nat) : Int)))), (4, (.int .i64 2)), (5, (i64 most)), (6, (.bool f))] Tryz.func46 rfl rfl hS args7 ?_
 refine CT.q (TL.val (r_asg .c) (TL.e (CT.seq (CT.q (TL.m m5 (TL.val (show Run _ _ _ _ _ _ (.bool false) from n_eql 2 3 T0 .c rfl rfl) (TL.b (.hd .u1) (CT.iff_ m0 ?_))))))))
 refine CT.z (EX.seq (CT.seq (CT.q (TL.m m5 (TL.val (show Run _ _ _ _ _ _ (.bool false) from n_eql 2 0 T0 .c rfl rfl) (TL.b (.hd .u1) (CT.iff_ m0 ?_)))))))
 refine CT.z (EX.q (TL.m m1 (TL.m m4 (TL.val (r_lens Tryz.underlying22 T0 m0) (TL.m m7 (TL.val (r_add (z := (((h.length - be) : Nat) : Int)) T1 T0 (wi (by omega))) (TL.m m11 (TL.perm p2 (TL.call (r_call ce_59 (.cons T5 (.cons T1 (.cons T0 .nil)))) (fun w hS => t59 r ((h.length - be)) most (N) (by omega) (by omega) (by omega) hS) ?_)))))))))
 rintro v41 w41 ⟨its, itl, itok, hS⟩
 refine TW.at hS (TL.a m0 (TL.b (.hd (.tl (.tl (.tl (.tl (.tl (.tl (.tl (.hd (.hd (.hd (.hd .u1)))))))))))) (CT.seq (CT.q (TL.m m5 (TL.val (show Run _ _ _ _ _ _ (.bool false) from n_eql 2 1 T0 .c rfl rfl) (TL.b (.hd .u1) (CT.iff_ m0 ?_))))))))
 refine CT.sub .u1 (CT.region (TL.m m3 (TL.m m3 (TL.m m2 (TL.m m10 (TL.perm p1 (TL.perm p1 (TL.perm p3 (TL.call (r_call ce_55 (.cons T3 (.cons T2 (.cons T1 (.cons T0 .nil))))) (fun w hS => t55 p r v41 its f bs (N + 1 + 8 * most) _ itok (by omega) (by omega) (by omega) hS) ?_)))))))))
 rintro _ w52 ⟨rfl, hd, b1, ls, ds, hhd, hib, hbl, hS⟩
 refine TW.at hS (TL.r .u5 (TL.m m4 (TL.m m1 (TL.perm p1 (TL.perm p3 (TL.call (r_call ce_56 (.cons T1 (.cons T0 .nil))) (fun w hS => t56 vo v41 h its _ itok (by omega) hl (by omega) hS) ?_))))))
 rintro v55 w55 hS
 refine TW.at hS (TL.rm .h4 (TL.a m0 (TL.b (.hd .u3) (CT.ret (EX.perm p3 (EX.perm p3 (EX.perm p2 (EX.perm p3 (EX.conv (fun _ h => h.tail) ?_)))))))))
 exact EX.perm p2 (EX.perm p2 (EX.perm p2 (EX.end_ (.inl rfl) (res1 Tryz.results46 m0) (fun _ hS => blk_post hbe itok itl hm hhd hib (by omega) (hS.perm p2 |>.imp (Rdr_mono (N' := N + 1073741824) (by omega)) |>.perm p2 |>.perm p2)))))
theorem t46_3 (r p N : Nat) (vo : Value) (h : List Nat) (bs : List Bool) (f : Bool) (be most : Nat) (hm : most ≤ 200) (hbe : be ≤ h.length) (hl : h.length < 1048576) (hb : bs.length < 68719476736) (hN : N < 68719476736) {G : World} {R : List HProp} {w : World} (hS : Sat G w (slc 1 vo h.length (h.map u8) :: Wr p bs :: Rdr G r (N) :: R)) :
 CallsR Tryz.prog 46 #[(pt r 0), (pt p 0), vo, (.int .i64 (-((be : Nat) : Int))), (.int .i64 3), (i64 most), (.bool f)] w (fun v w' => ∃ (h1 : List Nat) (b : List Bool), IsBlk bs.length f (h.drop be) b h1 ∧ h1.length ≤ (h.drop be).length + 258 * most ∧ b.length ≤ 1073741824 ∧ Sat G w' (slc 1 v (h.take be ++ h1).length ((h.take be ++ h1).map u8) :: Wr p (bs ++ b) :: Rdr G r (N + 1073741824) :: R)) := by
 refine calls_in (n := 56) [(0, (pt r 0)), (1, (pt p 0)), (2, vo), (3, (.int .i64 (-((be : Nat) : Int)))), (4, (.int .i64 3)), (5, (i64 most)), (6, (.bool f))] Tryz.func46 rfl rfl hS args7 ?_
 refine CT.q (TL.val (r_asg .c) (TL.e (CT.seq (CT.q (TL.m m5 (TL.val (show Run _ _ _ _ _ _ (.bool true) from n_eql 3 3 T0 .c rfl rfl) (TL.b (.hd .u1) (CT.ift m0 ?_))))))))
 refine CT.sub .u1 (CT.region (TL.m m1 (TL.perm p2 (TL.call (r_call ce_39 (.cons T0 (.cons .c .nil))) (fun w hS => t39 r 3 (N) (by omega) (by omega) hS) ?_))))
 rintro _ w20 ⟨y20, rfl, y20_l, hS⟩
 refine TW.at hS (TL.rm .h7 (TL.a m0 (TL.b (.hd .u2) (CT.seq (CT.seq ?_)))))
 have hy : y20 = 0 ∨ y20 = 1 ∨ y20 = 2 := by omega
 rcases hy with rfl | rfl | rfl
 ·
  refine CT.region (TL.m m0 (TL.val (show Run _ _ _ _ _ _ (.bool true) from n_eql 0 0 T0 .c rfl rfl) (TL.b (.hd .u1) (CT.ift m0 ?_))))
  refine CT.y (TL.m m2 (TL.m m7 (TL.call (r_call ce_44 (.cons T1 (.cons T0 .nil))) (fun w hS => t44 r most (N + 1) (by omega) (by omega) hS) ?_)))
  rintro v25 w25 ⟨xs25, xs25_l, xs25_b, hS⟩
  refine TW.at hS (TL.a m0 (TL.r (.hd .u3) (TL.m m4 (TL.m m1 (TL.m m10 (TL.m m6 (TL.perm p1 (TL.call (r_call ce_39 (.cons T0 (.cons .c .nil))) (fun w hS => t39 r 256 (N + 1 + 1 + 2 * most) (by omega) (by omega) hS) ?_))))))))
  rintro _ w30 ⟨y30, rfl, y30_l, hS⟩
  refine TW.at hS (TL.perm p3 (TL.perm p2 (TL.call (r_call ce_52 (.cons T4 (.cons T3 (.cons T2 (.cons T0 .nil))))) (fun w hS => t52 p v25 xs25 f y30 bs (by omega) (by omega) (by omega) xs25_b hS) ?_)))
  rintro _ w31 ⟨rfl, ps31, ps31_l, ps31_m, hS⟩
  refine TW.at hS (TL.r .u6 (TL.m m5 (TL.m m1 (TL.perm p3 (TL.w (r_appends (j := xs25.length) (k := h.length) (ds := xs25.map u8) el_22 Tryz.underlying22 T1 T0 m1 (ones_map one_u8) (by omega) (by omega)) ?_)))))
  rintro v34 w34 hS
  have ho34 := hS.slc_one
  refine TW.at hS (TL.fold (A' := (slc 1 v34 ((h.take be ++ (h.drop be ++ xs25)).length) ((h.take be ++ (h.drop be ++ xs25)).map u8))) a0 (slc_eq (by rw [← List.append_assoc, List.take_append_drop, List.length_append]) (by rw [← List.append_assoc, List.take_append_drop]; exact (List.map_append).symm)) ?_)
  exact TL.rm .h5 (TL.a m0 (TL.b (.hd .u3) (CT.ret (EX.then_ret (EX.end_ (.inl rfl) (res1 Tryz.results46 m0) (fun _ hS => ⟨h.drop be ++ xs25, _, .stored ps31_l ps31_m (by omega) xs25_b, by rw [List.length_append]; omega, by rw [storedBits_length]; omega, ((((hS.perm p1).tail.perm p2).imp (Rdr_mono (by omega))).perm p2).perm p2⟩))))))
 ·
  refine CT.region (TL.m m0 (TL.val (show Run _ _ _ _ _ _ (.bool false) from n_eql 1 0 T0 .c rfl rfl) (TL.b (.hd .u1) (CT.iff_ m0 ?_))))
  refine CT.z (EX.q (TL.m m2 (TL.m m5 (TL.val (r_lens Tryz.underlying22 T0 m1) (TL.m m8 (TL.val (r_add (z := (((h.length - be) : Nat) : Int)) T1 T0 (wi (by omega))) (TL.m m11 (TL.call (r_call ce_59 (.cons T5 (.cons T1 (.cons T0 .nil)))) (fun w hS => t59 r ((h.length - be)) most (N + 1) (by omega) (by omega) (by omega) hS) ?_))))))))
  rintro v41 w41 ⟨its, itl, itok, hS⟩
  refine TW.at hS (TL.a m0 (TL.b (.hd (.tl (.tl (.tl (.tl (.tl (.tl (.tl (.hd (.hd (.hd (.hd (.hd .u1))))))))))))) (CT.seq (CT.q (TL.m m1 (TL.val (show Run _ _ _ _ _ _ (.bool true) from n_eql 1 1 T0 .c rfl rfl) (TL.b (.hd .u1) (CT.ift m0 ?_))))))))
  refine CT.sub .u1 (CT.region (TL.m m4 (TL.m m1 (TL.m m9 (TL.perm p3 (TL.call (r_call ce_54 (.cons T2 (.cons T1 (.cons T0 .nil)))) (fun w hS => t54' p v41 its f bs _ itok (by omega) (by omega) hS) ?_))))))
  rintro _ w47 ⟨rfl, hd, b1, ls, ds, hhd, hib, hbl, hS⟩
  refine TW.at hS (TL.r .u4 (TL.m m5 (TL.m m1 (TL.perm p1 (TL.perm p3 (TL.call (r_call ce_56 (.cons T1 (.cons T0 .nil))) (fun w hS => t56 vo v41 h its _ itok (by omega) hl (by omega) hS) ?_))))))
  rintro v55 w55 hS
  refine TW.at hS (TL.rm .h5 (TL.a m0 (TL.b (.hd .u3) (CT.ret (EX.perm p3 (EX.perm p3 (EX.perm p2 (EX.perm p3 (EX.conv (fun _ h => h.tail) ?_)))))))))
  exact EX.perm p2 (EX.perm p2 (EX.perm p2 (EX.end_ (.inl rfl) (res1 Tryz.results46 m0) (fun _ hS => blk_post hbe itok itl hm hhd hib (by omega) (hS.perm p2 |>.imp (Rdr_mono (N' := N + 1073741824) (by omega)) |>.perm p2 |>.perm p2)))))
 refine CT.region (TL.m m0 (TL.val (show Run _ _ _ _ _ _ (.bool false) from n_eql 2 0 T0 .c rfl rfl) (TL.b (.hd .u1) (CT.iff_ m0 ?_))))
 refine CT.z (EX.q (TL.m m2 (TL.m m5 (TL.val (r_lens Tryz.underlying22 T0 m1) (TL.m m8 (TL.val (r_add (z := (((h.length - be) : Nat) : Int)) T1 T0 (wi (by omega))) (TL.m m11 (TL.call (r_call ce_59 (.cons T5 (.cons T1 (.cons T0 .nil)))) (fun w hS => t59 r ((h.length - be)) most (N + 1) (by omega) (by omega) (by omega) hS) ?_))))))))
 rintro v41 w41 ⟨its, itl, itok, hS⟩
 refine TW.at hS (TL.a m0 (TL.b (.hd (.tl (.tl (.tl (.tl (.tl (.tl (.tl (.hd (.hd (.hd (.hd (.hd .u1))))))))))))) (CT.seq (CT.q (TL.m m1 (TL.val (show Run _ _ _ _ _ _ (.bool false) from n_eql 2 1 T0 .c rfl rfl) (TL.b (.hd .u1) (CT.iff_ m0 ?_))))))))
 refine CT.sub .u1 (CT.region (TL.m m4 (TL.m m4 (TL.m m2 (TL.m m10 (TL.perm p1 (TL.perm p1 (TL.perm p3 (TL.call (r_call ce_55 (.cons T3 (.cons T2 (.cons T1 (.cons T0 .nil))))) (fun w hS => t55 p r v41 its f bs (N + 1 + 1 + 8 * most) _ itok (by omega) (by omega) (by omega) hS) ?_)))))))))
 rintro _ w52 ⟨rfl, hd, b1, ls, ds, hhd, hib, hbl, hS⟩
 refine TW.at hS (TL.r .u5 (TL.m m5 (TL.m m1 (TL.perm p1 (TL.perm p3 (TL.call (r_call ce_56 (.cons T1 (.cons T0 .nil))) (fun w hS => t56 vo v41 h its _ itok (by omega) hl (by omega) hS) ?_))))))
 rintro v55 w55 hS
 refine TW.at hS (TL.rm .h5 (TL.a m0 (TL.b (.hd .u3) (CT.ret (EX.perm p3 (EX.perm p3 (EX.perm p2 (EX.perm p3 (EX.conv (fun _ h => h.tail) ?_)))))))))
 exact EX.perm p2 (EX.perm p2 (EX.perm p2 (EX.end_ (.inl rfl) (res1 Tryz.results46 m0) (fun _ hS => blk_post hbe itok itl hm hhd hib (by omega) (hS.perm p2 |>.imp (Rdr_mono (N' := N + 1073741824) (by omega)) |>.perm p2 |>.perm p2)))))
end Go.Eng
namespace Go.Eng
open Go Go.Proofs Go.Infl
def BlkC (how most K : Nat) : Prop := ∀ {G w : World} {R : List HProp} (r p N : Nat) (vo : Value) (h : List Nat) (bs : List Bool) (f : Bool) (be : Nat), be ≤ h.length → h.length < 1048576 → bs.length < 68719476736 → N < 68719476736 →
 Sat G w (slc 1 vo h.length (h.map u8) :: Wr p bs :: Rdr G r N :: R) →
 CallsR Tryz.prog 46 #[pt r 0, pt p 0, vo, .int .i64 (-((be : Nat) : Int)), i64 how, i64 most, .bool f] w (fun v w' => ∃ (h1 : List Nat) (b : List Bool), IsBlk bs.length f (h.drop be) b h1 ∧ h1.length ≤ (h.drop be).length + K ∧ b.length ≤ 1073741824 ∧ Sat G w' (slc 1 v (h.take be ++ h1).length ((h.take be ++ h1).map u8) :: Wr p (bs ++ b) :: Rdr G r (N + 1073741824) :: R))
theorem blkC_1 {most : Nat} (hm : most ≤ 200) : BlkC 1 most (258 * most) := fun r p N vo h bs f be hbe hl hb hN hS => t46_1 r p N vo h bs f be most hm hbe hl hb hN hS
theorem blkC_2 {most : Nat} (hm : most ≤ 200) : BlkC 2 most (258 * most) := fun r p N vo h bs f be hbe hl hb hN hS => t46_2 r p N vo h bs f be most hm hbe hl hb hN hS
theorem blkC_3 {most : Nat} (hm : most ≤ 200) : BlkC 3 most (258 * most) := fun r p N vo h bs f be hbe hl hb hN hS => t46_3 r p N vo h bs f be most hm hbe hl hb hN hS
theorem Sat.newWr {G w : World} {R : List HProp} {p : Nat} (h : Sat G w (Eng.blk p 2 (lst [.slice none 0 0, .int .i64 0]) :: R)) : Sat G w (Wr p [] :: R) :=
 Sat.toWr (v := .slice none 0 0) ((nil_slc 1 h).perm (List.Perm.swap _ _ _))
end Go.Eng
namespace Go.Proofs.YtkpadembffdepaaGreatDoor
open Go Go.ChangeShapes Go.WideShapes Go.ChangeAt Go.RowKit Go.Eng
theorem own : ownKnob Tryz.prog.godebug = none := by kernel_rfl
theorem gEOF : Tryz.prog.globalNamed "io.EOF" = some 0 := by kernel_rfl
theorem gEOFt : (Tryz.prog.globals[0]?).map (·.type) = some 82 := by kernel_rfl
theorem cells5 : Tryz.prog.cellsOf 5 = 1 := by kernel_rfl
theorem laidFlat : (Rows.fnExactStoredRow.laid.filter fun x => x.2.handleName?.isNone) = [("io.ErrShortBuffer", Rows.laid_io_ErrShortBuffer), ("io.EOF", Rows.laid_io_EOF), ("io.ErrUnexpectedEOF", Rows.laid_io_ErrUnexpectedEOF), ("loop.example/pub-inflation/pub/inflate.codeOrder", Rows.laid_loop_example_pub_inflation_pub_inflate_codeOrder)] := by kernel_rfl
theorem laidHand : (Rows.fnExactStoredRow.laid.filter fun x => x.2.handleName?.isSome) = [("errors.errorType", Rows.laid_errors_errorType)] := by kernel_rfl
theorem laid_flat {W : World} (h : laidMetH Tryz.prog Rows.fnExactStoredRow.laid W) : laidMet Tryz.prog [("io.ErrShortBuffer", Rows.laid_io_ErrShortBuffer), ("io.EOF", Rows.laid_io_EOF), ("io.ErrUnexpectedEOF", Rows.laid_io_ErrUnexpectedEOF), ("loop.example/pub-inflation/pub/inflate.codeOrder", Rows.laid_loop_example_pub_inflation_pub_inflate_codeOrder)] W := by
 unfold laidMetH at h
 rw [laidHand, laidFlat] at h
 exact h.1
theorem star : "*" ++ "errors.errorString" = "*errors.errorString" := by decide
theorem row187 (u : TypeId) (h : Tryz.prog.typeName? 3 u = some "*errors.errorString") : u = 187 :=
 typeName_ptr_named (nm := "errors.errorString") (by rw [star]; kernel_rfl) (by kernel_rfl) (by decide) u (by rw [star]; exact h)
theorem sentinel_cell {W : World} {g : Nat} {cs : Array Value} {fuel : Nat} {p : List MemPlace} {s : List UInt8} {n : String} (hg : Tryz.prog.globalNamed n = some g) (hvar : W.var? Tryz.prog n = some cs)
 (hd : DataW.trod (fun _ => ()) Tryz.prog W 0 (fun _ => true) false fuel 82 cs.toList = some (.iface "*errors.errorString" (.ptr (.agg [.lit (.string s)])), p))
 (hok : ∀ u v, W.cell? ⟨g, 0, none⟩ = some (.iface u v) → Value.okWide Tryz.prog W .any 0 u v) : ∃ ea, W.cell? ⟨g, 0, none⟩ = some (.iface 187 (.pointer (some ea))) := by
 cases fuel with
 | zero => simp [DataW.trod] at hd
 | succ fuel =>
  rcases hcs : cs.toList with _ | ⟨x, _ | ⟨y, l⟩⟩
  ·
   rw [hcs] at hd; simp [DataW.trod, Tryz.underlying82] at hd
  ·
   rw [hcs] at hd
   have hc0 : W.cell? ⟨g, 0, none⟩ = some x := by
    have := World.var?_cell hg hvar 0
    rw [this, ← Array.getElem?_toList, hcs]; rfl
   cases x with
   | iface u v =>
    simp only [DataW.trod, Tryz.underlying82] at hd
    cases hn : Tryz.prog.typeName? 3 u with
    | none => rw [hn] at hd; cases hd
    | some name =>
     rw [hn] at hd
     simp only [Option.map_eq_some_iff] at hd
     obtain ⟨y, hy, he⟩ := hd
     simp only [Prod.mk.injEq, DataW.iface.injEq] at he
     obtain ⟨⟨rfl, he1⟩, he2⟩ := he
     obtain rfl := row187 u hn
     obtain ⟨a0, rfl⟩ := okWide_pointer Tryz.underlying187 (hok _ _ hc0)
     cases a0 with
     | some ea => exact ⟨ea, hc0⟩
     | none =>
      exfalso
      cases fuel with
      | zero => simp [DataW.trod] at hy
      | succ fuel =>
       simp [DataW.trod, Tryz.underlying187, Value.cells] at hy
       rw [← hy] at he1
       cases he1
   | _ => simp [DataW.trod, Tryz.underlying82] at hd
  rw [hcs] at hd; simp [DataW.trod, Tryz.underlying82] at hd
theorem gUE : Tryz.prog.globalNamed "io.ErrUnexpectedEOF" = some 1 := by kernel_rfl
theorem gUEt : (Tryz.prog.globals[1]?).map (·.type) = some 82 := by kernel_rfl
theorem gOrdt : (Tryz.prog.globals[3]?).map (·.type) = some 106 := by kernel_rfl
theorem gOrd : Tryz.prog.globalNamed "loop.example/pub-inflation/pub/inflate.codeOrder" = some 3 := by kernel_rfl
theorem gEt : Tryz.prog.globalNamed "errors.errorType" = some 2 := by kernel_rfl
theorem rtRow : (Tryz.prog.cutTypes.find? (·.1 == "internal/reflectlite.rtype")).map (·.2) = some 170 := by kernel_rfl
theorem errRow : ((List.range 218).filter fun t => Tryz.prog.rowNamed t [101, 114, 114, 111, 114]) = [82] := by kernel_rfl
theorem typesSize : Tryz.prog.types.size = 218 := by kernel_rfl
theorem cells106 : Tryz.prog.cellsOf 106 = 19 := by kernel_rfl
theorem cells3 : Tryz.prog.cellsOf 3 = 1 := by kernel_rfl
theorem et_of_laid {W : World} (h : laidMetH Tryz.prog Rows.fnExactStoredRow.laid W) : W.cell? ⟨2, 0, none⟩ = some (.iface 170 (.agg #[pt 7 82])) := by
 unfold laidMetH at h
 rw [laidHand, laidFlat] at h
 obtain ⟨name, u, ty, e1, e2, e3, e4, e5⟩ := h.2 _ (List.mem_singleton.2 rfl)
 have en : name = [101, 114, 114, 111, 114] := (Option.some.inj e1).symm
 subst en
 obtain rfl := Option.some.inj (rtRow.symm.trans e2)
 have hm : ty ∈ (List.range 218).filter fun t => Tryz.prog.rowNamed t [101, 114, 114, 111, 114] := List.mem_filter.2 ⟨List.mem_range.2 (by rw [← typesSize]; exact e3), e4⟩
 rw [errRow] at hm
 obtain rfl := List.mem_singleton.1 hm
 have hh : typeHandle Tryz.prog 82 = pt 7 82 := by kernel_rfl
 rw [hh] at e5
 simpa using World.var?_cell gEt e5 0
theorem laid_is {W : World} (h : laidMetH Tryz.prog Rows.fnExactStoredRow.laid W) : ∃ ea eb, LaidIs W ea eb := by
 have het := et_of_laid h
 obtain ⟨ps, ⟨_, _, _, _, _, _, _, _, _, _, ⟨g, t, cs, fuel, p, q, hg, ht, hvar, hd, ⟨g1, t1, cs1, fuel1, p1, q1, hg1, ht1, hvar1, hd1, ⟨g2, t2, cs2, fuel2, p2, q2, hg2, ht2, hvar2, hd2, _, hps3⟩, hps2⟩, hps1⟩, hps0⟩, _, hok⟩ := laid_flat h
 obtain rfl := Option.some.inj (gEOF.symm.trans hg)
 obtain rfl := Option.some.inj (gEOFt.symm.trans ht)
 obtain rfl := Option.some.inj (gUE.symm.trans hg1)
 obtain rfl := Option.some.inj (gUEt.symm.trans ht1)
 obtain rfl := Option.some.inj (gOrd.symm.trans hg2)
 obtain rfl := Option.some.inj (gOrdt.symm.trans ht2)
 have hsize : ∀ {n : String} {g : Nat} {cs : Array Value} {x : Value}, Tryz.prog.globalNamed n = some g → W.var? Tryz.prog n = some cs → W.cell? ⟨g, 0, none⟩ = some x → 0 < cs.size := fun {n g cs x} hg hvar hc => by
  rcases Nat.eq_zero_or_pos cs.size with h0 | h0
  ·
   have := World.var?_cell hg hvar 0
   rw [Array.getElem?_eq_none (by omega)] at this
   rw [this] at hc; cases hc
  exact h0
 obtain ⟨ea, h1⟩ := sentinel_cell hg hvar hd fun u v hc => by
  refine (hok 0 0 ?_).2 u v hc
  have hsz := hsize hg hvar hc
  rw [hps0, hps1]
  simp only [List.mem_append, MemPlace.row, List.mem_map, List.mem_range]
  exact .inr (.inl (.inl ⟨0, hsz, rfl⟩))
 obtain ⟨eb, h2⟩ := sentinel_cell hg1 hvar1 hd1 fun u v hc => by
  refine (hok 1 0 ?_).2 u v hc
  have hsz := hsize hg1 hvar1 hc
  rw [hps0, hps1, hps2]
  simp only [List.mem_append, MemPlace.row, List.mem_map, List.mem_range]
  exact .inr (.inr (.inl (.inl ⟨0, hsz, rfl⟩)))
 refine ⟨ea, eb, h1, h2, fun i hi => ?_, het⟩
 have hcs : cs2.toList = (Go.Infl.ordr.map fun n : Nat => (n : Int)).map fun z => Value.int .i64 z := Lib.cells_of_tab (k := .i64) Tryz.underlying106 Tryz.underlying3 cells3 cells106 (zs := Go.Infl.ordr.map fun n : Nat => (n : Int)) hd2
 have := World.var?_cell hg2 hvar2 i
 rw [this, ← Array.getElem?_toList, hcs]
 have hi' : i < Go.Infl.ordr.length := hi
 rw [List.getElem?_map, List.getElem?_map, List.getD_eq_getElem?_getD, List.getElem?_eq_getElem hi']
 rfl
theorem code_of_arg {W : World} {base : Nat} {H : Type} {enc : TypeId × Value → H} {v : Value} {d : DataW H} {p : List MemPlace} (hval : Value.okWide Tryz.prog W .any base 22 v) (hd : DataW.Trod enc Tryz.prog W 0 (fun _ => true) true 22 v d p) :
 CodeOf W v ∧ ∀ (W' : World) (sp : Nat → Bool), (∀ x ∈ p, W.sameAt W' x) → (∀ x ∈ p, sp x.block = true) → DataW.Trod enc Tryz.prog W' 0 sp true 22 v d p := by
 obtain ⟨a1, len, cap, rfl⟩ := okWide_slice Tryz.underlying22 hval
 obtain ⟨fuel, hf⟩ := hd
 rcases open_ints Tryz.underlying22 Tryz.underlying5 cells5 hf with ⟨hcs, hx⟩ | ⟨a, len', cap', zs, hcs, _, hl, hm, hz, hx, hcell, hwz⟩
 ·
  simp [Value.cells] at hcs
  obtain ⟨rfl, rfl, rfl⟩ := hcs
  simp only [Prod.mk.injEq] at hx
  obtain ⟨rfl, rfl⟩ := hx
  exact ⟨.inl rfl, fun W' sp _ _ => shut_slice_nil Tryz.underlying22⟩
 simp [Value.cells] at hcs
 obtain ⟨rfl, rfl, rfl⟩ := hcs
 simp only [Prod.mk.injEq] at hx
 obtain ⟨rfl, rfl⟩ := hx
 simp only [if_true] at hz
 have hspot : a.spot = none := by
  simp only [Value.okWide, Tryz.underlying22, Cell.okWide, Cell.ok] at hval
  exact hval.2.2.2.1
 obtain ⟨b, off, spot⟩ := a
 obtain rfl : spot = none := hspot
 have hc : ∀ j, j < zs.length → W.cell? ⟨b, off + j, none⟩ = some (.int .u8 (zs.getD j 0)) := fun j hj => by rw [← add_plain]; exact hcell j hj
 have hu : ∀ n ∈ zs, 0 ≤ n ∧ n < 256 := fun n hn => by
  have := hwz n hn
  simp [Lit.wf, IntKind.min, IntKind.max, IntKind.signed, IntKind.bits] at this
  omega
 refine ⟨.inr ⟨b, off, cap, (zs.take len).map Int.toNat, ?_, ?_, ?_, ?_⟩, fun W' sp hs hsp => ⟨2, ?_⟩⟩
 ·
  rw [List.length_map, List.length_take, Nat.min_eq_left (by omega)]
 ·
  rw [List.length_map, List.length_take]; omega
 ·
  intro x hx
  obtain ⟨n, hn, rfl⟩ := List.mem_map.1 hx
  have := hu n (List.mem_of_mem_take hn)
  omega
 ·
  intro j x hj
  rw [List.getElem?_map, List.getElem?_take] at hj
  split at hj
  ·
   cases hz2 : zs[j]? with
   | none => rw [hz2] at hj; cases hj
   | some n =>
    rw [hz2] at hj
    have hx : n.toNat = x := Option.some.inj hj
    subst hx
    obtain ⟨hlt, hn⟩ := List.getElem?_eq_some_iff.1 hz2
    rw [hc j hlt, List.getD_eq_getElem?_getD, hz2]
    have := hu n (List.mem_of_getElem? hz2)
    show some (Value.int .u8 n) = some (Value.int .u8 (n.toNat : Int))
    rw [Int.toNat_of_nonneg this.1]
  cases hj
 refine shut_ints' 0 Tryz.underlying22 Tryz.underlying5 cells5 (Nat.zero_le _) hl hm ?_ ?_ hwz
 ·
  rw [hz]
  rcases Nat.eq_zero_or_pos cap with h0 | h0
  ·
   split <;> omega
  rw [if_pos (show sp b = true from hsp (.cell b off) (by simp only [MemPlace.row, List.mem_map, List.mem_range]; exact ⟨0, by omega, rfl⟩))]
 intro j hj
 have := hs (.cell b (off + j)) (by simp only [MemPlace.row, List.mem_map, List.mem_range]; exact ⟨j, hj, rfl⟩)
 rw [show W'.cell? ⟨b, off + j, none⟩ = W.cell? ⟨b, off + j, none⟩ from this]
 exact hc j hj
end Go.Proofs.YtkpadembffdepaaGreatDoor
namespace Go.Proofs.YtkpadembffdepaaGreatDoor
open Go Go.ChangeShapes Go.WideShapes Go.ChangeAt Go.RowKit Go.Eng
theorem same_of_sat {W W' : World} {L : List HProp} (h : Sat W W' L) {p : MemPlace} (hb : p.block < W.heap.size) : W.sameAt W' p := by
 cases p with
 | cell b o =>
  have := h.base b hb
  simp [World.sameAt, World.cell?, this]
 | map b =>
  have := h.base b hb
  simp [World.sameAt, this]
theorem var_of_sat {W W' : World} {L : List HProp} {n : String} {cs : Array Value} (h : Sat W W' L) (hv : W.var? Tryz.prog n = some cs) : W'.var? Tryz.prog n = some cs := by
 unfold World.var? at hv ⊢
 cases hg : Tryz.prog.globalNamed n with
 | none => rw [hg] at hv; cases hv
 | some g =>
  rw [hg] at hv
  simp only [Option.bind_some] at hv ⊢
  have hlt : g < W.heap.size := by
   rcases Nat.lt_or_ge g W.heap.size with h1 | h1
   ·
    exact h1
   rw [Array.getElem?_eq_none h1] at hv; cases hv
  rw [h.base g hlt]
  exact hv
theorem laidOut : laidOutB Tryz.prog = true := by kernel_rfl
theorem read106 : Tryz.prog.readableRec 106 = true := by kernel_rfl
theorem row106 : 106 < Tryz.prog.types.size := of_decide_eq_true (by kernel_rfl)
theorem sl106 : Tryz.prog.slicesRec 106 = false := by kernel_rfl
theorem if106 : Tryz.prog.ifacesRec 106 = false := by kernel_rfl
theorem ve106 : Tryz.prog.veiledRec 106 = false := by kernel_rfl
theorem contract_of {f : FuncId} {fn : Func} {s : ChangeSpec} (hp : fn.params = #[22]) (hr : fn.resultTypes = #[4]) (hv : s.vars = ["loop.example/pub-inflation/pub/inflate.codeOrder"])
 (hs : ∀ (H : Type) (d g1 : DataW H), s.fn H [d, g1] = { results := [.lit (.bool true)], args := [d], vars := [g1] })
 (walk : ∀ (W : World) (v : Value), CodeOf W v → laidMetH Tryz.prog Rows.fnExactStoredRow.laid W → CallsR Tryz.prog f #[v] W (fun r w' => r = .bool true ∧ Sat W w' []))
 {H : Type} {enc : TypeId × Value → H} {W : World} {base : Nat} {args : Array Value} {ds gs : List (DataW H)} {before : List MemPlace} {fresh handsOn again : Bool}
 (hval : ∀ (j : Nat) t v, fn.params[j]? = some t → args[j]? = some v → Value.okWide Tryz.prog W .any base t v)
 (hW : DataW.Whole enc Tryz.prog fn.params.toList s.vars false W args.toList ds gs before) (hL : laidMetH Tryz.prog Rows.fnExactStoredRow.laid W) :
 Calls Tryz.prog f args W fun e W' => ∃ v, e = .returned v ∧ s.post enc Tryz.prog fn false fresh handsOn again W args v W' := by
 have hW' := hW
 obtain ⟨p, q, hA0, hV, rfl, hfz, hnd⟩ := hW
 have hA : DataW.TrodAll enc Tryz.prog W 0 (fun _ => true) true fn.params.toList args.toList ds p := hA0
 rw [hp] at hA hval
 obtain ⟨v0, vs0, d0, ds0, p0, q0, hargs, rfl, rfl, h0, r0⟩ := trodAll_cons hA
 obtain ⟨rfl, rfl, rfl⟩ := trodAll_nil r0
 obtain rfl : args = #[v0] := by cases args; simp_all
 rw [hv] at hV
 obtain ⟨g, t, cs, fuel, d1, pv, rfl, hg, ht, hvar, hd1, rfl⟩ := trodVars_one hV
 obtain rfl := Option.some.inj (gOrd.symm.trans hg)
 obtain rfl := Option.some.inj (gOrdt.symm.trans ht)
 obtain ⟨hc, hre⟩ := code_of_arg (hval 0 22 v0 rfl rfl) h0
 have hlt := hW'.lt
 refine Calls.mono (walk W v0 hc hL) fun e W' he => ?_
 cases e with
 | returned r =>
  obtain ⟨rfl, hS⟩ := he
  have e1 : s.fn H ([d0] ++ [d1]) = { results := [.lit (.bool true)], args := [d0], vars := [d1] } := hs H d0 d1
  refine ⟨_, rfl, post_of_same (pa := p0 ++ []) (pv := MemPlace.row ⟨3, 0, none⟩ cs.size ++ pv) hW' ?_ ?_ ?_ rfl (hS.grown.frame _) hS.grown.2.1 ?_⟩
  ·
   intro b sp hd
   rw [e1, hr]
   exact trodAll_cons_mk (shut_bool Tryz.underlying4 _) trodAll_mk0
  ·
   intro sp hsp
   rw [e1, hp]
   refine trodAll_cons_mk (hre W' sp (fun x hx => same_of_sat hS (hlt x ?_)) (fun x hx => hsp x ?_)) trodAll_mk0
   ·
    simp [hx]
   simp [hx]
  ·
   intro sp hsp
   rw [e1, hv]
   exact trodVars_mk1 gOrd gOrdt (var_of_sat hS hvar) (trod_any laidOut read106 row106 sl106 if106 hd1 (fun x hx => same_of_sat hS (hlt x (by simp [show x ∈ pv from hx]))) ve106)
  exact ok_one (f := fn) hr (by first | rfl | (rw [hr]; rfl)) (okWide_bool_mk Tryz.underlying4 _)
 | _ => exact he.elim
end Go.Proofs.YtkpadembffdepaaGreatDoor
namespace Go.Proofs.YtkpadembffdepaaGreatDoor
open Go Go.ChangeShapes Go.WideShapes Go.ChangeAt Go.RowKit Go.Eng
noncomputable def laidWorld (os : Os) : World :=
 let w0 := World.holding Tryz.prog os ⟨#[], #[], []⟩
 { w0 with heap := (((((((w0.heap.modify 0 fun
  | .cells _ t frozen => .cells #[.iface 187 (pt 12 0)] t frozen
  | o => o).modify 1 fun
  | .cells _ t frozen => .cells #[.iface 187 (pt 13 0)] t frozen
  | o => o).modify 2 fun
  | .cells _ t frozen => .cells #[.iface 170 (.agg #[pt 7 82])] t frozen
  | o => o).modify 3 fun
  | .cells _ t frozen => .cells #[.int .i64 16, .int .i64 17, .int .i64 18, .int .i64 0, .int .i64 8, .int .i64 7, .int .i64 9, .int .i64 6, .int .i64 10, .int .i64 5, .int .i64 11, .int .i64 4, .int .i64 12, .int .i64 3, .int .i64 13, .int .i64 2, .int .i64 14, .int .i64 1, .int .i64 15] t frozen
  | o => o).modify 4 fun
  | .cells _ t frozen => .cells #[.iface 187 (pt 14 0)] t frozen
  | o => o).push (.cells #[.string ⟨#[69, 79, 70]⟩] 207 (0, 0))).push (.cells #[.string ⟨#[117, 110, 101, 120, 112, 101, 99, 116, 101, 100, 32, 69, 79, 70]⟩] 207 (0, 0))).push (.cells #[.string ⟨#[115, 104, 111, 114, 116, 32, 98, 117, 102, 102, 101, 114]⟩] 207 (0, 0)) }
theorem laid_met (os : Os) : laidMetH Tryz.prog Rows.fnExactStoredRow.laid ((laidWorld os).forCall (fun _ _ => 0) ⟨#[], #[.slice none 0 0], []⟩).memory :=
 laidMetH_of_parts (laidMet_of_run' 8 (by kernel_rfl) (by kernel_rfl)) (by kernel_rfl)
theorem wit_vars (os : Os) : ((laidWorld os).forCall (fun _ _ => 0) ⟨#[], #[.slice none 0 0], []⟩).variablesB Tryz.checked.prog = true := by kernel_rfl
theorem wit_rest (os : Os) : (((laidWorld os).forCall (fun _ _ => 0) ⟨#[], #[.slice none 0 0], []⟩).heap.toList.drop Tryz.checked.prog.globals.size).take ((begin Tryz.checked.prog (fun _ _ => 0) default).world.heap.size - Tryz.checked.prog.globals.size) =
 (begin Tryz.checked.prog (fun _ _ => 0) default).world.heap.toList.drop Tryz.checked.prog.globals.size := by kernel_rfl
theorem reads (os : Os) {H : Type} (enc : TypeId × Value → H) : DataW.whole enc Tryz.prog ((laidWorld os).forCall (fun _ _ => 0) ⟨#[], #[.slice none 0 0], []⟩).memory [22] ["loop.example/pub-inflation/pub/inflate.codeOrder"] false #[Value.slice none 0 0].toList 8 =
 some ([.nil], [Rows.laid_loop_example_pub_inflation_pub_inflate_codeOrder], MemPlace.row ⟨3, 0, none⟩ 19) := by kernel_rfl
end Go.Proofs.YtkpadembffdepaaGreatDoor
