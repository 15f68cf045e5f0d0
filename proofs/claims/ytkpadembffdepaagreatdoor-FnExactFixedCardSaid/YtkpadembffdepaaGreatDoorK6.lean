/- Parts of the proof of the card: Si Ja Jb La Lb Lc Ld -/
import Derived.Test.YtkpadembffdepaaGreatDoorK5
import Derived.Test.YtkpadembffdepaaGreatDoorK3
import Derived.Test.YtkpadembffdepaaGreatDoorK4
import Derived.Test.YtkpadembffdepaaGreatDoorCards
import Derived.Test.YtkpadembffdepaaGreatDoorTie
import Derived.WalkKit
import Derived.ProofKit
import Derived.OpenShut
import Derived.Deep.DeepHandedRow
import Derived.Deep.Modes
import Derived.Deep.Frames
import Derived.Lib.LaidTab
import Derived.LaidHandle
import Derived.ChangeVars
import Derived.LaidByText
set_option maxRecDepth 100000
set_option maxHeartbeats 4000000
set_option linter.unusedVariables false
set_option linter.unusedSimpArgs false
namespace Go.Eng
open Go Go.Proofs Go.Infl
theorem head3 {fin : Bool} {typ : Nat} (h : typ ≤ 3) : nbits 3 (Bool.toNat fin + 2 * typ) = fin :: nbits 2 typ := by
 have : typ = 0 ∨ typ = 1 ∨ typ = 2 ∨ typ = 3 := by omega
 rcases this with rfl | rfl | rfl | rfl <;> cases fin <;> rfl
theorem stored_drop {B ps rest : List Bool} {xs : List Nat} {k m : Nat} (hd : B.drop k = ps ++ (nbits 16 xs.length ++ (nbits 16 m ++ (xs.flatMap (nbits 8) ++ rest)))) : B.drop (k + ps.length + 32 + 8 * xs.length) = rest := by
 have h1 := drop_app hd
 have h2 := drop_app h1
 rw [nbits_length] at h2
 have h3 := drop_app h2
 rw [nbits_length] at h3
 have h4 := drop_app h3
 rw [bits8_length] at h4
 exact h4
theorem sep_slc {l : List HProp} {v : Value} {k b c j : Nat} {x : Nat} {cs : List Nat} {G w : World} {L : List HProp} (hm : sep l ∈ L) (h : Sat G w L) (hx : slc 1 v k (cs.map i64) ∈ l) (hv : v = .slice (some ⟨b, 0, none⟩) k c) (hj : cs[j]? = some x) : w.cell? ⟨b, 0 + j, none⟩ = some (i64 x) := by
 obtain ⟨m, h1, h2⟩ := h.obj hm
 obtain ⟨m', h3, h4⟩ := SatL.get hx h1
 obtain ⟨hl, h5⟩ := h3
 subst hv
 rcases h5 with ⟨e, _⟩ | ⟨b', c', F, e, e2, ⟨cs', T, e3, e4, e5⟩, e6⟩
 ·
  cases e
 cases e
 have hc := (h2 _ _ (h4 _ _ e3)).2
 have hlt := (List.getElem?_eq_some_iff.1 hj).1
 rw [List.length_map] at hl
 simp [World.cell?, hc, e5 j (by omega), e6 j (i64 x) (by rw [List.getElem?_map, hj]; rfl)]
theorem fixLit_15 : ∀ x ∈ fixLit, x ≤ 15 := by
 intro x hx
 obtain ⟨i, _, rfl⟩ := List.mem_map.1 hx
 unfold fl
 split
 ·
  decide
 split <;> decide
theorem fixDist_15 : ∀ x ∈ fixDist, x ≤ 15 := fun x hx => by rw [List.eq_of_mem_replicate hx]; decide
theorem t73_b {p at_ : Nat} {sv dv : Value} {B : List Bool} {out : List Nat} (ps : List Bool) (n m : Nat) {rest : List Bool} (hA : B.length < 9223372036854775000) (hps : ps.length < 8) (hal : (at_ + ps.length) % 8 = 0) (hn : n < 65536) (hm : m < 65536) (hnm : n + m ≠ 65535) (hd : B.drop at_ = ps ++ (nbits 16 n ++ (nbits 16 m ++ rest))) {G : World} {R : List HProp} {w : World} (hS : Sat G w ((Sp p sv (B) at_ dv out ((-1))) :: R)) :
 CallsR Tryz.prog 73 #[(.pointer (some ⟨p, 0, none⟩))] w (fun v w' => v = .tuple #[] ∧ Sat G w' (Sp p sv B (at_ + ps.length + 16 + 16) dv out 2 :: R)) := by
 have hlen := congrArg List.length hd
 simp only [List.length_drop, List.length_append, nbits_length] at hlen
 have hd1 := drop_app hd
 have hd2 := drop_app hd1
 rw [nbits_length] at hd2
 refine calls_in (n := 45) [(0, (.pointer (some ⟨p, 0, none⟩)))] Tryz.func73 rfl rfl hS args1 ?_
 refine CT.seq (CT.sp ?_)
 intro ov1
 refine CT.region (TL.m m0 (TL.m m1 (TL.c m0 (TL.f 1 fo_56_1 m0 (TL.val (r_ld (v := (i64 at_)) Tryz.isAgg3 m0 (.t m0) (by decide) rfl) (TL.val (n_add at_ 7 9223372036854775808 (.t m0) .c rfl rfl (by omega)) (TL.val (n_quo ((at_ + 7)) 8 9223372036854775808 (.t m0) .c rfl rfl (by omega) (by omega)) (TL.val (n_mul (((at_ + 7) / 8)) 8 9223372036854775808 (.t m0) .c rfl rfl (by omega)) (TL.c m7 (TL.f 1 fo_56_1 m0 (TL.s (r_stl (l' := [sv, (i64 (((at_ + 7) / 8) * 8)), dv, ov1, (.int .i64 ((-1)))]) Tryz.sizeOf3 a0 (.t m0) (.t m2) (by decide)) (TL.sub .t10 (TL.perm p2 (TL.perm p2 (TL.perm p2 (TL.unsp ?_))))))))))))))))
 refine TL.fold (A' := (Sp p sv (B) (at_ + ps.length) dv out ((-1)))) a0 (Sp_eq (by omega) rfl) ?_
 refine TL.q (TL.m m0 (TL.call (r_call ce_72 (.cons (.t m0) (.cons .c .nil))) (fun w hS => t72 n 16 (rest := (nbits 16 m ++ rest)) (by omega) (by decide) hn hd1 hS) ?_))
 rintro _ w17 ⟨rfl, hS⟩
 refine TW.at hS ?_
 refine TL.a m0 (TL.sub (.hd .t2) (TL.q (TL.m m1 (TL.call (r_call ce_72 (.cons (.t m0) (.cons .c .nil))) (fun w hS => t72 m 16 (rest := rest) (by omega) (by decide) hm hd2 hS) ?_))))
 rintro _ w19 ⟨rfl, hS⟩
 refine TW.at hS ?_
 refine TL.a m0 (TL.sub (.hd .t2) (TL.e (CT.seq (CT.q (TL.m m2 (TL.call (r_call ce_47 (.cons (.t m0) .nil)) (fun w hS => t47 (r := true) (by decide) hS) ?_))))))
 rintro _ w21 ⟨rfl, hS⟩
 refine TW.at hS ?_
 refine TL.m m0 (TL.gv m0 (r_move (.t m4)) (TL.gv m1 (r_move (.t m4)) (TL.gv m2 (n_add (n) (m) 9223372036854775808 (.t m1) (.t m0) rfl rfl (by omega)) (TL.gv m3 (n_neq ((n + m)) 65535 (.t m0) .c rfl rfl) (TL.val (r_pickt (.t m4) (.t m0)) (TL.sub (.hd .t8) (TL.e (CT.ifd m0 (fun c27 => ?_) (fun c27 => ?_)))))))))
 ·
  refine CT.sub .t1 (CT.region (TL.m m1 (TL.call (r_call ce_49 (.cons (.t m0) (.cons .c .nil))) (fun w hS => t49_1 hS) ?_)))
  rintro _ w29 ⟨rfl, hS⟩
  refine TW.at hS ?_
  refine TL.sub .t2 (TL.q (TL.val (r_asg .c) (TL.e (CT.block (CT.loop (X := Unit) (fun gx => [(4, (.int .i64 0)), (2, (i64 n)), (0, (.pointer (some ⟨p, 0, none⟩)))]) (fun gx => (Sp p sv (B) (at_ + ps.length + 16 + 16) dv out 2) :: R) (fun gx => True) (fun gx => 0) () trivial (.refl _) (.sl 0 3 rfl) ?_)))))
  rintro u -
  show CT _ _ _ [(4, (.int .i64 0)), (2, (i64 n)), (0, (.pointer (some ⟨p, 0, none⟩)))] _ _ ((Sp p sv (B) (at_ + ps.length + 16 + 16) dv out 2) :: R)
  refine CT.seq (CT.q (TL.m m0 (TL.m m2 (TL.val (n_lss 0 (n) (.t m1) (.t m0) rfl rfl) (TL.m m0 ?_)))))
  by_cases g33 : 0 < (n)
  ·
   refine TL.sub (.eq m0 (congrArg Value.bool (decide_eq_true g33)) (.eq m1 (congrArg Value.bool (decide_eq_true g33)) (.cons m2 (.cons m3 (.cons m4 (.cons m5 (.cons m6 .nil))))))) (TL.gv m0 (r_move (.t m6)) (TL.gcall m1 (r_call ce_47 (.cons (.t m0) .nil)) (fun w hS => t47 (r := false) (by decide) hS) ?_))
   rintro _ w35 ⟨rfl, hS⟩
   refine TW.at hS ?_
   refine TL.val (r_pickt (.t m2) (.t m0)) (TL.sub (.hd .t6) (TL.e (CT.iff_ m0 ?_)))
   exact CT.sub .t1 (CT.exit (EX.then_exit (EX.then_exit (EX.out (EX.end_ (.inr rfl) (res0 Tryz.results73) (fun _ hS => ⟨rfl, hS⟩))))))
  refine TL.sub (.eq m0 (congrArg Value.bool (decide_eq_false g33)) (.eq m1 (congrArg Value.bool (decide_eq_false g33)) (.cons m2 (.cons m3 (.cons m4 (.cons m5 (.cons m6 .nil))))))) (TL.gn m0 (TL.gn m0 (TL.val (r_pickf (.t m0) .c) (TL.sub (.hd .t4) (TL.e (CT.iff_ m0 ?_))))))
  exact CT.sub .t1 (CT.exit (EX.then_exit (EX.then_exit (EX.out (EX.end_ (.inr rfl) (res0 Tryz.results73) (fun _ hS => ⟨rfl, hS⟩))))))
 exfalso; omega
theorem t48 {p at_ dc typ : Nat} {sv : Value} {dp : Option Addr} {B rest3 : List Bool} {out dd : List Nat} {DA : HProp} {fin : Bool} {hF : List Nat × Bool} (hDR : DRd DA (.slice dp dd.length dc) dd) (hdd : dd.length ≤ 32768) (hd0 : B.drop at_ = nbits 3 (Bool.toNat fin + 2 * typ) ++ rest3) (htyp : typ ≤ 3) (hb3 : Blk3 fin at_ (dd ++ out) hF typ rest3) (hBl : B.length < 1099511627776) (hol : hF.1.length ≤ dd.length + 131072) {G : World} {R : List HProp} {w : World} (hS : Sat G w ((Sp p sv (B) at_ (.slice dp dd.length dc) out ((-1))) :: DA :: R)) :
 CallsR Tryz.prog 48 #[(.pointer (some ⟨p, 0, none⟩))] w (fun v w' => v = .bool fin ∧ ∃ (at' : Nat) (out' : List Nat), at_ < at' ∧ at' ≤ B.length ∧ ((After fin at' (B.drop at') (dd ++ out') hF ∧ Sat G w' (Sp p sv B at' (.slice dp dd.length dc) out' (-1) :: DA :: R)) ∨ (hF = (dd ++ out', false) ∧ Sat G w' (Sp p sv B at' (.slice dp dd.length dc) out' 2 :: DA :: R)))) := by
 have hd1 : B.drop at_ = fin :: (nbits 2 typ ++ rest3) := by rw [hd0, head3 htyp]; rfl
 have hd2 := (drop_cons hd1).2.2
 have hd3 := drop_app hd2
 rw [nbits_length] at hd3
 have hlen := congrArg List.length hd1
 simp only [List.length_drop, List.length_append, List.length_cons, nbits_length] at hlen
 refine calls_in (n := 27) [(0, (.pointer (some ⟨p, 0, none⟩)))] Tryz.func48 rfl rfl hS args1 ?_
 refine CT.q (TL.val (r_asg .c) (TL.q (TL.m m1 (TL.call (r_call ce_71 (.cons (.t m0) .nil)) (fun w hS => t71 (b := fin) (rest := (nbits 2 typ ++ rest3)) (by omega) hd1 hS) ?_))))
 rintro _ w5 ⟨rfl, hS⟩
 refine TW.at hS ?_
 refine TL.a m0 (TL.sub (.hd .t2) (TL.e (CT.seq (CT.q (TL.m m2 (TL.call (r_call ce_72 (.cons (.t m0) (.cons .c .nil))) (fun w hS => t72 typ 2 (rest := rest3) (by omega) (by decide) (by omega) hd2 hS) ?_))))))
 rintro _ w7 ⟨rfl, hS⟩
 refine TW.at hS ?_
 refine TL.sub (.hd .t1) (TL.e (CT.block (CT.seq ?_)))
 rcases hb3 with @⟨ps, rest, xs, hps, hal, hxl, hx, hle, haf⟩ | @⟨ps, rest, n, m, hps, hal, hn1, hm1, hnm, he⟩ | ⟨ht⟩ | @⟨own, nl, nd, hb0, bits, o, hoh, hhr, he, hgo⟩ | ⟨he⟩
 ·
  refine CT.sub (ρ' := [(7, (.int .i64 0)), (3, (i64 (Bool.toNat fin))), (2, (.bool false)), (0, (.pointer (some ⟨p, 0, none⟩)))]) (.eq m0 rfl (.sl 1 3 rfl)) (CT.region (TL.val (show Run _ _ _ _ _ _ (.bool true) from n_eql 0 0 (.t m0) .c rfl rfl) (TL.a m0 (TL.sub (.hd .t1) (TL.e (CT.ift m0 ?_))))))
  refine CT.sub .t1 (CT.region (TL.m m3 ?_))
  simp only [List.length_append] at hle
  refine TL.call (r_call ce_73 (.cons (.t m0) .nil)) (fun w hS => t73 ps xs (by omega) hps (by omega) hxl hx (by omega) hd3 hS) ?_
  rintro _ w13 ⟨rfl, hS⟩
  refine TW.at hS ?_
  have hl3 := congrArg List.length hd3
  simp only [List.length_drop, List.length_append, nbits_length, bits8_length] at hl3
  have hdr : B.drop (at_ + 1 + 2 + ps.length + 32 + 8 * xs.length) = rest := stored_drop hd3
  exact TL.sub .t2 (TL.nil (EX.bnormal (EX.q (TL.m m1 (TL.val (n_eql ((Bool.toNat fin)) 1 (.t m0) .c rfl rfl) (TL.rm .h4 (TL.a m0 (TL.sub (.hd (.tl (.tl (.hd .t1)))) (TL.e (CT.ret (EX.perm p1 (EX.perm p1 (EX.perm p1 (EX.perm p1 (EX.end_ (.inl rfl) (res1 Tryz.results48 m0) (fun _ hS => ⟨by cases fin <;> rfl, at_ + 1 + 2 + ps.length + 32 + 8 * xs.length, out ++ xs, by omega, by omega, .inl ⟨by rw [hdr, show at_ + 1 + 2 + ps.length + 32 + 8 * xs.length = at_ + 3 + ps.length + 32 + 8 * xs.length by omega, ← List.append_assoc]; exact haf, hS⟩⟩))))))))))))))))
 ·
  refine CT.sub (ρ' := [(7, (.int .i64 0)), (3, (i64 (Bool.toNat fin))), (2, (.bool false)), (0, (.pointer (some ⟨p, 0, none⟩)))]) (.eq m0 rfl (.sl 1 3 rfl)) (CT.region (TL.val (show Run _ _ _ _ _ _ (.bool true) from n_eql 0 0 (.t m0) .c rfl rfl) (TL.a m0 (TL.sub (.hd .t1) (TL.e (CT.ift m0 ?_))))))
  refine CT.sub .t1 (CT.region (TL.m m3 (TL.call (r_call ce_73 (.cons (.t m0) .nil)) (fun w hS => t73_b ps n m (by omega) hps (by omega) hn1 hm1 hnm hd3 hS) ?_)))
  rintro _ w13 ⟨rfl, hS⟩
  refine TW.at hS ?_
  have hl3 := congrArg List.length hd3
  simp only [List.length_drop, List.length_append, nbits_length] at hl3
  exact TL.sub .t2 (TL.nil (EX.bnormal (EX.q (TL.m m1 (TL.val (n_eql ((Bool.toNat fin)) 1 (.t m0) .c rfl rfl) (TL.rm .h4 (TL.a m0 (TL.sub (.hd (.tl (.tl (.hd .t1)))) (TL.e (CT.ret (EX.perm p1 (EX.perm p1 (EX.perm p1 (EX.perm p1 (EX.end_ (.inl rfl) (res1 Tryz.results48 m0) (fun _ hS => ⟨by cases fin <;> rfl, at_ + 1 + 2 + ps.length + 16 + 16, out, by omega, by omega, .inr ⟨he, hS⟩⟩))))))))))))))))
 ·
  refine CT.sub (ρ' := [(7, (.int .i64 1)), (3, (i64 (Bool.toNat fin))), (2, (.bool false)), (0, (.pointer (some ⟨p, 0, none⟩)))]) (.eq m0 rfl (.sl 1 3 rfl)) (CT.region (TL.val (show Run _ _ _ _ _ _ (.bool false) from n_eql 1 0 (.t m0) .c rfl rfl) (TL.a m0 (TL.sub (.hd .t1) (TL.e (CT.iff_ m0 ?_))))))
  refine CT.sub .t1 (CT.q (TL.val (show Run _ _ _ _ _ _ (.bool true) from n_eql 1 1 (.t m0) .c rfl rfl) (TL.a m0 (TL.sub (.hd .t1) (TL.e (CT.ift m0 ?_))))))
  refine CT.sub .t1 (CT.region (TL.m m3 (TL.call (r_call ce_75 .nil) (fun w hS => t75' hS) ?_)))
  rintro _ w17 ⟨v1, v2, rfl, hS⟩
  refine TW.at hS ?_
  refine TL.val (r_ext (.t m0)) (TL.val (r_ext (.t m1)) (TL.peek m0 (by rw [fixLit_length]; omega) ?_))
  intro fa fa_c fa_v fa_k fa_l
  refine TL.peek m1 (by rw [fixDist_length]; omega) ?_
  intro fb fb_c fb_v fb_k fb_l
  refine TL.sub (ρ' := [(19, v2), (18, (.slice (some ⟨fa, 0, none⟩) fixLit.length fa_c)), (17, (.tuple #[v1, v2])), (16, (.pointer (some ⟨p, 0, none⟩))), (7, (.int .i64 1)), (3, (i64 (Bool.toNat fin))), (2, (.bool false)), (0, (.pointer (some ⟨p, 0, none⟩)))]) (.cons m0 (.eq m1 fa_v (.sl 2 6 rfl))) (TL.sub (ρ' := [(19, (.slice (some ⟨fb, 0, none⟩) fixDist.length fb_c)), (18, (.slice (some ⟨fa, 0, none⟩) fixLit.length fa_c)), (17, (.tuple #[v1, v2])), (16, (.pointer (some ⟨p, 0, none⟩))), (7, (.int .i64 1)), (3, (i64 (Bool.toNat fin))), (2, (.bool false)), (0, (.pointer (some ⟨p, 0, none⟩)))]) (.eq m0 fb_v (.sl 1 7 rfl)) (TL.perm p1 (TL.perm p1 (TL.conv (fun _ h => Sat.resep (Ls := [_, _]) h) (TL.perm p2 (TL.perm p2 (TL.call (r_call ce_74 (.cons (.t m3) (.cons (.t m1) (.cons (.t m0) .nil)))) (fun w hS => t74 hDR hdd (sep [(slc 1 v1 fixLit.length (fixLit.map i64)), (slc 1 v2 fixDist.length (fixDist.map i64))]) (fun hm hS j x hj => sep_slc hm hS (.head _) fa_v hj) (fun hm hS j x hj => sep_slc hm hS (.tail _ (.head _)) fb_v hj) (by rw [fixLit_length]; decide) (by rw [fixDist_length]; decide) fixLit_15 fixDist_15 fix_fits.1 (.inl fix_fits.2) (fix_lit (by decide)) (by rw [hd3]; exact ht) (by omega) hBl hol hS) ?_)))))))
  rintro _ w20 ⟨rfl, a', o', ha1, ha2, ⟨haf, hS⟩ | ⟨he, hS⟩⟩
  ·
   refine TW.at hS ?_
   refine TL.sub .t5 (TL.nil (EX.bnormal (EX.q (TL.m m1 (TL.val (n_eql ((Bool.toNat fin)) 1 (.t m0) .c rfl rfl) (TL.rm .h4 (TL.a m0 (TL.sub (.hd (.tl (.tl (.hd .t1)))) (TL.e (CT.ret (EX.perm p1 (EX.perm p1 (EX.perm p2 (EX.conv (fun _ h => h.tail) ?_))))))))))))))
   exact EX.perm p1 (EX.perm p1 (EX.end_ (.inl rfl) (res1 Tryz.results48 m0) (fun _ hS => ⟨by cases fin <;> rfl, a', o', by omega, ha2, .inl ⟨haf, hS⟩⟩)))
  refine TW.at hS ?_
  refine TL.sub .t5 (TL.nil (EX.bnormal (EX.q (TL.m m1 (TL.val (n_eql ((Bool.toNat fin)) 1 (.t m0) .c rfl rfl) (TL.rm .h4 (TL.a m0 (TL.sub (.hd (.tl (.tl (.hd .t1)))) (TL.e (CT.ret (EX.perm p1 (EX.perm p1 (EX.perm p2 (EX.conv (fun _ h => h.tail) ?_))))))))))))))
  exact EX.perm p1 (EX.perm p1 (EX.end_ (.inl rfl) (res1 Tryz.results48 m0) (fun _ hS => ⟨by cases fin <;> rfl, a', o', by omega, ha2, .inr ⟨he, hS⟩⟩)))
 ·
  refine CT.sub (ρ' := [(7, (.int .i64 2)), (3, (i64 (Bool.toNat fin))), (2, (.bool false)), (0, (.pointer (some ⟨p, 0, none⟩)))]) (.eq m0 rfl (.sl 1 3 rfl)) (CT.region (TL.val (show Run _ _ _ _ _ _ (.bool false) from n_eql 2 0 (.t m0) .c rfl rfl) (TL.a m0 (TL.sub (.hd .t1) (TL.e (CT.iff_ m0 ?_))))))
  refine CT.sub .t1 (CT.q (TL.val (show Run _ _ _ _ _ _ (.bool false) from n_eql 2 1 (.t m0) .c rfl rfl) (TL.a m0 (TL.sub (.hd .t1) (TL.e (CT.iff_ m0 ?_))))))
  refine CT.sub .t1 (CT.q (TL.val (show Run _ _ _ _ _ _ (.bool true) from n_eql 2 2 (.t m0) .c rfl rfl) (TL.a m0 (TL.sub (.hd .t1) (TL.e (CT.ift m0 ?_))))))
  refine CT.sub .t1 (CT.region (TL.m m3 (TL.perm p1 (TL.perm p1 (TL.call (r_call ce_76 (.cons (.t m0) .nil)) (fun w hS => t76 hDR hdd hoh hhr he hgo hd3 hBl hol hS) ?_)))))
  rintro _ w24 ⟨rfl, a', o', ha1, ha2, ⟨haf, hS⟩ | ⟨he, hS⟩⟩
  ·
   refine TW.at hS ?_
   exact TL.sub .t2 (TL.nil (EX.bnormal (EX.q (TL.m m1 (TL.val (n_eql ((Bool.toNat fin)) 1 (.t m0) .c rfl rfl) (TL.rm .h4 (TL.a m0 (TL.sub (.hd (.tl (.tl (.hd .t1)))) (TL.e (CT.ret (EX.perm p1 (EX.perm p1 (EX.perm p1 (EX.perm p1 (EX.end_ (.inl rfl) (res1 Tryz.results48 m0) (fun _ hS => ⟨by cases fin <;> rfl, a', o', by omega, ha2, .inl ⟨haf, hS⟩⟩))))))))))))))))
  refine TW.at hS ?_
  exact TL.sub .t2 (TL.nil (EX.bnormal (EX.q (TL.m m1 (TL.val (n_eql ((Bool.toNat fin)) 1 (.t m0) .c rfl rfl) (TL.rm .h4 (TL.a m0 (TL.sub (.hd (.tl (.tl (.hd .t1)))) (TL.e (CT.ret (EX.perm p1 (EX.perm p1 (EX.perm p1 (EX.perm p1 (EX.end_ (.inl rfl) (res1 Tryz.results48 m0) (fun _ hS => ⟨by cases fin <;> rfl, a', o', by omega, ha2, .inr ⟨he, hS⟩⟩))))))))))))))))
 refine CT.sub (ρ' := [(7, (.int .i64 3)), (3, (i64 (Bool.toNat fin))), (2, (.bool false)), (0, (.pointer (some ⟨p, 0, none⟩)))]) (.eq m0 rfl (.sl 1 3 rfl)) (CT.region (TL.val (show Run _ _ _ _ _ _ (.bool false) from n_eql 3 0 (.t m0) .c rfl rfl) (TL.a m0 (TL.sub (.hd .t1) (TL.e (CT.iff_ m0 ?_))))))
 refine CT.sub .t1 (CT.q (TL.val (show Run _ _ _ _ _ _ (.bool false) from n_eql 3 1 (.t m0) .c rfl rfl) (TL.a m0 (TL.sub (.hd .t1) (TL.e (CT.iff_ m0 ?_))))))
 refine CT.sub .t1 (CT.q (TL.val (show Run _ _ _ _ _ _ (.bool false) from n_eql 3 2 (.t m0) .c rfl rfl) (TL.a m0 (TL.sub (.hd .t1) (TL.e (CT.iff_ m0 ?_))))))
 refine CT.sub .t1 (CT.region (TL.m m3 (TL.call (r_call ce_49 (.cons (.t m0) (.cons .c .nil))) (fun w hS => t49_1 hS) ?_)))
 rintro _ w9 ⟨rfl, hS⟩
 refine TW.at hS ?_
 exact TL.sub .t2 (TL.nil (EX.bnormal (EX.q (TL.m m1 (TL.val (n_eql ((Bool.toNat fin)) 1 (.t m0) .c rfl rfl) (TL.rm .h4 (TL.a m0 (TL.sub (.hd (.tl (.tl (.hd .t1)))) (TL.e (CT.ret (EX.perm p1 (EX.perm p1 (EX.perm p1 (EX.perm p1 (EX.end_ (.inl rfl) (res1 Tryz.results48 m0) (fun _ hS => ⟨by cases fin <;> rfl, at_ + 1 + 2, out, by omega, by omega, .inr ⟨he, hS⟩⟩))))))))))))))))
theorem t21 {sv : Value} {B st0 tail0 : List Bool} {outF : List Nat} {gd : Bool} (hBl : B.length < 1099511627776) (hB : B = st0 ++ tail0) (hst : Strm 0 st0 ([] : List Nat) (([] : List Nat) ++ outF, gd)) (ho : outF.length ≤ 131072) {G : World} {R : List HProp} {w : World} (hS : Sat G w (slc 1 sv ((pack B).length) ((pack B).map u8) :: R)) :
 CallsR Tryz.prog 21 #[sv, (.slice none 0 0)] w (fun v w' => ∃ (v1 : Value) (c u : Nat), v = .tuple #[v1, i64 c, i64 u] ∧ (gd = true ∧ c = 1 ∨ gd = false ∧ c = 2) ∧ Sat G w' (slc 1 v1 outF.length (outF.map u8) :: slc 1 sv (pack B).length ((pack B).map u8) :: R)) := by
 refine calls_in (n := 37) [(0, sv), (1, (.slice none 0 0))] Tryz.func21 rfl rfl hS args2 ?_
 refine CT.q (TL.val (r_asg .c) (TL.val (r_asg .c) (TL.val (r_asg .c) (TL.e (CT.seq (CT.expose (fun w hS => hS.slc_shape m0) ?_))))))
 rintro ⟨-, hsv0⟩
 obtain ⟨sp, sl, sc, hsv⟩ : ∃ p l c, sv = .slice p l c := by rcases hsv0 with ⟨h, _⟩ | ⟨b, c, h, _⟩ <;> exact ⟨_, _, _, h⟩
 refine CT.region (TL.m m3 (TL.m m5 (TL.m m6 (TL.val (r_len Tryz.underlying22 (.t m0)) (TL.val (r_sub (z := ((-32768))) (.t m0) .c (wi (by decide))) (TL.val (show Run _ _ _ _ _ _ (.int .i64 0) from r_max .c (.t m0)) (TL.val (r_slicen Tryz.underlying22 Tryz.sizeOf5 (.t m4) (.so (j := 0) (.t m0) rfl) .no (by first | rfl | simp) (by first | rfl | simp)) (TL.val (r_build (v := (.agg #[sv, (.int .i64 0), (.slice none 0 0), (.slice none 0 0), (.int .i64 ((-1)))])) (.cons (.t m6) (.cons (.t m0) (.cons .c .nil))) (fun _ => by rw [hsv]; kernel_rfl)) (TL.w (r_box (F := lst [sv, (.int .i64 0), (.slice none 0 0), (.slice none 0 0), (.int .i64 ((-1)))]) (.t m0) rfl rfl lst_ok) ?_)))))))))
 rintro _ w16 ⟨b16, rfl, hS⟩
 refine TW.at hS ?_
 refine TL.a m0 (TL.sub (.hd (.tl (.tl (.tl (.tl (.tl (.tl (.tl (.tl (.tl (.hd (.hd (.hd .t2))))))))))))) (TL.e (CT.seq (CT.block (CT.conv (fun _ h => h.emp (A := (hpure True)) trivial) ?_)))))
 refine CT.nilslc 1 ?_
 refine CT.perm p3 (CT.perm p3 (CT.conv (fun _ h => Sat.unsp (out := ([] : List Nat)) (at_ := 0) (e := -1) h) ?_))
 refine CT.loop (X := Int × Nat × List Nat) (fun gx => [(7, (.pointer (some ⟨b16, 0, none⟩))), (6, (.int .i64 0)), (5, (.int .i64 0)), (4, (.slice none 0 0))]) (fun gx => (Sp b16 sv (B) gx.2.1 (.slice none 0 0) gx.2.2 gx.1) :: (hpure True) :: R) (fun gx => (gx.1 = -1 ∧ (∃ st tail, B.drop gx.2.1 = st ++ tail ∧ Strm gx.2.1 st (([] : List Nat) ++ gx.2.2) (([] : List Nat) ++ outF, gd)) ∨ gx.1 = 1 ∧ ([] : List Nat) ++ gx.2.2 = ([] : List Nat) ++ outF ∧ gd = true ∨ gx.1 = 2 ∧ (([] : List Nat) ++ outF, gd) = (([] : List Nat) ++ gx.2.2, false)) ∧ gx.2.1 ≤ B.length) (fun gx => (if gx.1 < 0 then 1 + (B.length - gx.2.1) else 0)) (((-1), 0, ([] : List Nat))) (⟨.inl ⟨rfl, st0, tail0, by rw [List.drop_zero]; exact hB, by rw [List.append_nil]; exact hst⟩, Nat.zero_le _⟩) (.refl _) (.sl 0 4 rfl) ?_
 rintro ⟨e, at_, o1⟩ ⟨hJ, hJ3⟩
 show CT _ _ _ [(7, (.pointer (some ⟨b16, 0, none⟩))), (6, (.int .i64 0)), (5, (.int .i64 0)), (4, (.slice none 0 0))] _ _ ((Sp b16 sv (B) at_ (.slice none 0 0) o1 e) :: (hpure True) :: R)
 replace hJ3 : at_ ≤ B.length := hJ3
 refine CT.seq (CT.seq ?_)
 rcases hJ with ⟨rfl, st, tail, hb1, hb2⟩ | ⟨rfl, hb1, hb2⟩ | ⟨rfl, hb1⟩
 ·
  replace hb1 : B.drop at_ = st ++ tail := hb1
  replace hb2 : Strm at_ st (([] : List Nat) ++ o1) (([] : List Nat) ++ outF, gd) := hb2
  obtain ⟨fin, typ, rest3, hh1, hh2, hh3⟩ := hb2.blk3 tail
  have hle := hb2.len
  have hlb := congrArg List.length (hb1.trans hh1)
  simp only [List.length_drop, List.length_append, nbits_length] at hlb
  refine CT.region (TL.m m0 (TL.call (r_call ce_47 (.cons (.t m0) .nil)) (fun w hS => t47 (r := true) (by decide) hS) ?_))
  rintro _ w18 ⟨rfl, hS⟩
  refine TW.at hS ?_
  refine TL.sub (.hd .t1) (TL.e (CT.ift m0 ?_))
  refine CT.sub .t1 (CT.skip (EX.seq (CT.block (CT.q (TL.m m0 (TL.perm p1 (TL.perm p1 (TL.call (r_call ce_48 (.cons (.t m0) .nil)) (fun w hS => t48 (DA := hpure True) (dd := ([] : List Nat)) (dp := none) (dc := 0) (.inl ⟨rfl, rfl⟩) (by decide) (hb1.trans hh1) hh2 hh3 hBl (by show (([] : List Nat) ++ outF).length ≤ (([] : List Nat)).length + 131072; rw [List.length_append]; omega) hS) ?_))))))))
  rintro _ w20 ⟨rfl, a', o', ha1, ha2, ⟨haf, hS⟩ | ⟨he, hS⟩⟩
  ·
   replace hS : Sat G w20 ((Sp b16 sv (B) a' (.slice none 0 0) o' ((-1))) :: (hpure True) :: R) := hS
   refine TW.at hS ?_
   refine TL.sub (.hd .t1) (TL.e (CT.iff m0 (fun c20 => ?_) (fun c20 => ?_)))
   ·
    refine CT.sub .t1 (CT.region (TL.m m0 (TL.call (r_call ce_49 (.cons (.t m0) (.cons .c .nil))) (fun w hS => t49_1 hS) ?_)))
    rintro _ w22 ⟨rfl, hS⟩
    refine TW.at hS ?_
    exact TL.sub .t2 (TL.nil (EX.bnormal (EX.again ((1, a', o')) (⟨.inr (.inl ⟨rfl, (haf.1 c20)⟩), ha2⟩) (by show (if (1 : Int) < 0 then 1 + (B.length - a') else 0) < (if (-1 : Int) < 0 then 1 + (B.length - at_) else 0); rw [if_neg (by decide), if_pos (by decide)]; omega) (.refl _) (.sl 0 4 rfl))))
   exact CT.sub .t1 (CT.skip (EX.bnormal (EX.again (((-1), a', o')) (⟨.inl ⟨rfl, by obtain ⟨st, tail, h1, h2⟩ := haf.2 (by simpa using c20); exact ⟨st, tail, h1, h2⟩⟩, ha2⟩) (by show (if (-1 : Int) < 0 then 1 + (B.length - a') else 0) < (if (-1 : Int) < 0 then 1 + (B.length - at_) else 0); rw [if_pos (by decide), if_pos (by decide)]; omega) (.refl _) (.sl 0 4 rfl))))
  replace hS : Sat G w20 ((Sp b16 sv (B) a' (.slice none 0 0) o' 2) :: (hpure True) :: R) := hS
  refine TW.at hS ?_
  refine TL.sub (.hd .t1) (TL.e (CT.iff m0 (fun c20 => ?_) (fun c20 => ?_)))
  ·
   refine CT.sub .t1 (CT.region (TL.m m0 (TL.call (r_call ce_49 (.cons (.t m0) (.cons .c .nil))) (fun w hS => t49_2 (by decide) hS) ?_)))
   rintro _ w22 ⟨rfl, hS⟩
   refine TW.at hS ?_
   exact TL.sub .t2 (TL.nil (EX.bnormal (EX.again ((2, a', o')) (⟨.inr (.inr ⟨rfl, he⟩), ha2⟩) (by show (if (2 : Int) < 0 then 1 + (B.length - a') else 0) < (if (-1 : Int) < 0 then 1 + (B.length - at_) else 0); rw [if_neg (by decide), if_pos (by decide)]; omega) (.refl _) (.sl 0 4 rfl))))
  exact CT.sub .t1 (CT.skip (EX.bnormal (EX.again ((2, a', o')) (⟨.inr (.inr ⟨rfl, he⟩), ha2⟩) (by show (if (2 : Int) < 0 then 1 + (B.length - a') else 0) < (if (-1 : Int) < 0 then 1 + (B.length - at_) else 0); rw [if_neg (by decide), if_pos (by decide)]; omega) (.refl _) (.sl 0 4 rfl))))
 ·
  refine CT.region (TL.m m0 (TL.call (r_call ce_47 (.cons (.t m0) .nil)) (fun w hS => t47 (r := false) (by decide) hS) ?_))
  rintro _ w18 ⟨rfl, hS⟩
  refine TW.at hS ?_
  refine TL.sub (.hd .t1) (TL.e (CT.iff_ m0 ?_))
  refine CT.sub .t1 (CT.exit (EX.then_exit (EX.then_exit (EX.out (EX.seq (CT.seq ?_))))))
  have hoF : o1 = outF := List.append_cancel_left hb1
  refine CT.sp ?_
  intro ov1
  refine CT.still fm (by kernel_rfl) ?_
  refine TS.val (r_move (.t m0)) ?_
  refine TS.val (r_nil (.t m0)) ?_
  refine TS.val (r_fa (off' := 3) fo_56_3 (.t m0)) ?_
  refine TS.val (r_ld (v := ov1) Tryz.isAgg22 m0 (.t m0) (by decide) rfl) ?_
  refine TS.val (r_move (.t m4)) ?_
  refine TS.val (r_nil (.t m0)) ?_
  refine TS.val (r_fa (off' := 4) fo_56_4 (.t m0)) ?_
  refine TS.val (r_ld (v := (.int .i64 1)) Tryz.isAgg3 m0 (.t m0) (by decide) rfl) ?_
  refine TS.val (r_move (.t m8)) ?_
  refine TS.val (r_nil (.t m0)) ?_
  refine TS.val (r_fa (off' := 1) fo_56_1 (.t m0)) ?_
  refine TS.val (r_ld (v := (i64 at_)) Tryz.isAgg3 m0 (.t m0) (by decide) rfl) ?_
  refine TS.val (n_add at_ 7 9223372036854775808 (.t m0) .c rfl rfl (by omega)) ?_
  refine TS.val (n_quo ((at_ + 7)) 8 9223372036854775808 (.t m0) .c rfl rfl (by omega) (by omega)) ?_
  refine TS.rm .h17 ?_
  refine TS.val (r_asg (.t m10)) ?_
  refine TS.rm .h17 ?_
  refine TS.val (r_asg (.t m7)) ?_
  refine TS.rm .h17 ?_
  refine TS.val (r_asg (.t m2)) ?_
  refine TS.nil ?_
  refine TL.sub (.hd (.hd (.hd .t14))) (TL.e (CT.ret (EX.fold (A' := (slc 1 ov1 outF.length (outF.map u8))) a2 (slc_eq (by rw [hoF]) (by rw [hoF])) (EX.perm p1 (EX.perm p2 (EX.perm p2 (EX.conv (fun _ h => h.tail) ?_)))))))
  refine EX.perm p2 (EX.conv (fun _ h => h.tail) ?_)
  exact EX.perm p1 (EX.perm p1 (EX.end_ (.inl rfl) (res3 Tryz.results21 m2 m1 m0) (fun _ hS => ⟨ov1, 1, _, rfl, .inl ⟨hb2, rfl⟩, hS⟩)))
 refine CT.region (TL.m m0 (TL.call (r_call ce_47 (.cons (.t m0) .nil)) (fun w hS => t47 (r := false) (by decide) hS) ?_))
 rintro _ w18 ⟨rfl, hS⟩
 refine TW.at hS ?_
 refine TL.sub (.hd .t1) (TL.e (CT.iff_ m0 ?_))
 refine CT.sub .t1 (CT.exit (EX.then_exit (EX.then_exit (EX.out (EX.seq (CT.seq ?_))))))
 have hoF : outF = o1 := List.append_cancel_left (Prod.mk.inj hb1).1
 replace hoF := hoF.symm
 refine CT.sp ?_
 intro ov2
 refine CT.still fm (by kernel_rfl) ?_
 refine TS.val (r_move (.t m0)) ?_
 refine TS.val (r_nil (.t m0)) ?_
 refine TS.val (r_fa (off' := 3) fo_56_3 (.t m0)) ?_
 refine TS.val (r_ld (v := ov2) Tryz.isAgg22 m0 (.t m0) (by decide) rfl) ?_
 refine TS.val (r_move (.t m4)) ?_
 refine TS.val (r_nil (.t m0)) ?_
 refine TS.val (r_fa (off' := 4) fo_56_4 (.t m0)) ?_
 refine TS.val (r_ld (v := (.int .i64 2)) Tryz.isAgg3 m0 (.t m0) (by decide) rfl) ?_
 refine TS.val (r_move (.t m8)) ?_
 refine TS.val (r_nil (.t m0)) ?_
 refine TS.val (r_fa (off' := 1) fo_56_1 (.t m0)) ?_
 refine TS.val (r_ld (v := (i64 at_)) Tryz.isAgg3 m0 (.t m0) (by decide) rfl) ?_
 refine TS.val (n_add at_ 7 9223372036854775808 (.t m0) .c rfl rfl (by omega)) ?_
 refine TS.val (n_quo ((at_ + 7)) 8 9223372036854775808 (.t m0) .c rfl rfl (by omega) (by omega)) ?_
 refine TS.rm .h17 ?_
 refine TS.val (r_asg (.t m10)) ?_
 refine TS.rm .h17 ?_
 refine TS.val (r_asg (.t m7)) ?_
 refine TS.rm .h17 ?_
 refine TS.val (r_asg (.t m2)) ?_
 refine TS.nil ?_
 refine TL.sub (.hd (.hd (.hd .t14))) (TL.e (CT.ret (EX.fold (A' := (slc 1 ov2 outF.length (outF.map u8))) a2 (slc_eq (by rw [hoF]) (by rw [hoF])) (EX.perm p1 (EX.perm p2 (EX.perm p2 (EX.conv (fun _ h => h.tail) ?_)))))))
 refine EX.perm p2 (EX.conv (fun _ h => h.tail) ?_)
 exact EX.perm p1 (EX.perm p1 (EX.end_ (.inl rfl) (res3 Tryz.results21 m2 m1 m0) (fun _ hS => ⟨ov2, 2, _, rfl, .inr ⟨(Prod.mk.inj hb1).2, rfl⟩, hS⟩)))
theorem t17 {sv : Value} {B st0 tail0 : List Bool} {outF : List Nat} {gd : Bool} (hBl : B.length < 1099511627776) (hB : B = st0 ++ tail0) (hst : Strm 0 st0 ([] : List Nat) (([] : List Nat) ++ outF, gd)) (ho : outF.length ≤ 131072) {G : World} {R : List HProp} {w : World} (hS : Sat G w (slc 1 sv ((pack B).length) ((pack B).map u8) :: R)) :
 CallsR Tryz.prog 17 #[sv] w (fun v w' => ∃ c : Nat, v = i64 c ∧ (gd = true ∧ c = 1 ∨ gd = false ∧ c = 2) ∧ Sat G w' (slc 1 sv (pack B).length ((pack B).map u8) :: R)) := by
 refine calls_in (n := 13) [(0, sv)] Tryz.func17 rfl rfl hS args1 ?_
 refine CT.q (TL.val (r_asg .c) (TL.q (TL.m m1 (TL.call (r_call ce_21 (.cons (.t m0) (.cons .c .nil))) (fun w hS => t21 hBl hB hst ho hS) ?_))))
 rintro _ w8 ⟨v1, c, u, rfl, hgc, hS⟩
 refine TW.at hS ?_
 refine TL.m m0 (TL.val (r_ext (.t m0)) (TL.val (r_ext (.t m1)) (TL.val (r_ext (.t m2)) (TL.a m2 (TL.a m2 (TL.a m2 (TL.sub (.tl (.hd (.tl (.tl (.tl (.tl (.tl (.tl (.tl (.hd .t1)))))))))) (TL.q (TL.m m0 (TL.rm .h2 (TL.a m0 (TL.sub (.hd .t2) (TL.e (CT.ret (EX.perm p1 (EX.perm p1 (EX.conv (fun _ h => h.tail) ?_)))))))))))))))))
 exact EX.end_ (.inl rfl) (res1 Tryz.results17 m0) (fun _ hS => ⟨c, rfl, hgc, hS⟩)
end Go.Eng
namespace Go.Eng
open Go Go.Proofs Go.Infl
theorem ItOk.mono : ∀ {l : List It} {n m : Nat}, ItOk n l → n ≤ m → ItOk m l
 | [], _, _, _, _ => trivial
 | .lit b :: r, n, m, H, h => ⟨H.1, ItOk.mono (l := r) H.2 (by omega)⟩
 | .mat l d :: r, n, m, H, h => ⟨⟨H.1.1, H.1.2.1, H.1.2.2.1, Nat.le_trans H.1.2.2.2.1 h, H.1.2.2.2.2⟩, ItOk.mono (l := r) H.2 (by omega)⟩
theorem copyM_pre2 (a : List Nat) {h : List Nat} {d : Nat} (h1 : 1 ≤ d) (h2 : d ≤ h.length) : ∀ n, copyM (a ++ h) d n = a ++ copyM h d n
 | 0 => rfl
 | n + 1 => by
  rw [copyM, copyM, copyM_pre2 a h1 h2 n, List.append_assoc]
  congr 3
  rw [List.length_append, List.getD_eq_getElem?_getD, List.getD_eq_getElem?_getD, List.getElem?_append_right (by rw [copyM_length]; omega)]
  congr 2
  rw [copyM_length]; omega
theorem gives_pre (a : List Nat) : ∀ {l : List It} {h : List Nat}, ItOk h.length l → gives (a ++ h) l = a ++ gives h l
 | [], _, _ => rfl
 | .lit b :: r, h, H => by rw [gives, gives, List.append_assoc, gives_pre a (l := r) (h := h ++ [b]) (by rw [List.length_append]; exact H.2)]
 | .mat l d :: r, h, H => by
  rw [gives, gives, copyM_pre2 a H.1.2.2.1 H.1.2.2.2.1, gives_pre a (l := r) (h := copyM h d l) (by rw [copyM_length]; exact H.2)]
theorem t54' (p : Nat) (vi : Value) (its : List It) (f : Bool) (bs : List Bool) (n0 : Nat) (hok : ItOk n0 its) (hil : its.length ≤ 4096) (hb : bs.length + 1000010 < 1099511627776) {G : World} {R : List HProp} {w : World} (hS : Sat G w (Wr p bs :: slc 3 vi its.length (itC its) :: R)) :
 CallsR Tryz.prog 54 #[(.pointer (some ⟨p, 0, none⟩)), vi, (.bool f)] w (fun v w' => v = .tuple #[] ∧ ∃ (hd b1 : List Bool) (ls ds : List Nat), Head f hd ls ds ∧ ItBits ls ds its b1 ∧ (hd ++ (b1 ++ symB ls 256)).length ≤ 1000000 ∧ Sat G w' (Wr p (bs ++ (hd ++ (b1 ++ symB ls 256))) :: slc 3 vi its.length (itC its) :: R)) :=
 (t54 p vi its f bs n0 hok hil hb hS).mono fun v w' ⟨e, b, ⟨b1, hb, hi⟩, hl, hS⟩ => ⟨e, _, b1, _, _, .fixed, hi, by rw [← hb, List.length_append, nbits_length]; omega, by rw [← hb]; exact hS⟩
theorem blk_post {G w : World} {R : List HProp} {p r N most be : Nat} {v : Value} {h : List Nat} {bs hd b1 : List Bool} {its : List It} {ls ds : List Nat} {f : Bool} (hbe : be ≤ h.length) (hok : ItOk (h.length - be) its) (hil : its.length ≤ most) (hm : most ≤ 200) (hh : Head f hd ls ds) (hi : ItBits ls ds its b1) (hbl : (hd ++ (b1 ++ symB ls 256)).length ≤ 1073741824)
 (hS : Sat G w (slc 1 v (gives h its).length ((gives h its).map u8) :: Wr p (bs ++ (hd ++ (b1 ++ symB ls 256))) :: Rdr G r (N + 1073741824) :: R)) :
 ∃ (h1 : List Nat) (b : List Bool), IsBlk bs.length f (h.drop be) b h1 ∧ h1.length ≤ (h.drop be).length + 258 * most ∧ b.length ≤ 1073741824 ∧ Sat G w (slc 1 v (h.take be ++ h1).length ((h.take be ++ h1).map u8) :: Wr p (bs ++ b) :: Rdr G r (N + 1073741824) :: R) := by
 have hdl : (h.drop be).length = h.length - be := List.length_drop
 have hok' : ItOk (h.drop be).length its := by rw [hdl]; exact hok
 have hg : gives h its = h.take be ++ gives (h.drop be) its := by rw [← gives_pre _ hok', List.take_append_drop]
 rw [hg] at hS
 refine ⟨gives (h.drop be) its, _, .huff hh hok' hi, ?_, hbl, hS⟩
 rw [gives_length]
 have := itSize_le its _ hok'
 have : 258 * its.length ≤ 258 * most := Nat.mul_le_mul_left _ hil
 omega
theorem t46_0 (r p N : Nat) (vo : Value) (h : List Nat) (bs : List Bool) (f : Bool) (be most : Nat) (hm : most ≤ 200) (hbe : be ≤ h.length) (hl : h.length < 1048576) (hb : bs.length < 68719476736) (hN : N < 68719476736) {G : World} {R : List HProp} {w : World} (hS : Sat G w (slc 1 vo h.length (h.map u8) :: Wr p bs :: Rdr G r (N) :: R)) :
 CallsR Tryz.prog 46 #[(.pointer (some ⟨r, 0, none⟩)), (.pointer (some ⟨p, 0, none⟩)), vo, (.int .i64 (-((be : Nat) : Int))), (.int .i64 0), (i64 most), (.bool f)] w (fun v w' => ∃ (h1 : List Nat) (b : List Bool), IsBlk bs.length f (h.drop be) b h1 ∧ h1.length ≤ (h.drop be).length + most ∧ b.length ≤ 1073741824 ∧ Sat G w' (slc 1 v (h.take be ++ h1).length ((h.take be ++ h1).map u8) :: Wr p (bs ++ b) :: Rdr G r (N + 1073741824) :: R)) := by
 refine calls_in (n := 56) [(0, (.pointer (some ⟨r, 0, none⟩))), (1, (.pointer (some ⟨p, 0, none⟩))), (2, vo), (3, (.int .i64 (-((be : Nat) : Int)))), (4, (.int .i64 0)), (5, (i64 most)), (6, (.bool f))] Tryz.func46 rfl rfl hS args7 ?_
 refine CT.q (TL.val (r_asg .c) (TL.e (CT.seq (CT.q (TL.m m5 (TL.val (show Run _ _ _ _ _ _ (.bool false) from n_eql 0 3 (.t m0) .c rfl rfl) (TL.sub (.hd .t1) (TL.e (CT.iff_ m0 ?_)))))))))
 refine CT.sub .t1 (CT.skip (EX.seq (CT.seq (CT.q (TL.m m5 (TL.val (show Run _ _ _ _ _ _ (.bool true) from n_eql 0 0 (.t m0) .c rfl rfl) (TL.sub (.hd .t1) (TL.e (CT.ift m0 ?_)))))))))
 refine CT.sub .t1 (CT.q (TL.m m1 (TL.m m7 (TL.perm p2 (TL.call (r_call ce_44 (.cons (.t m1) (.cons (.t m0) .nil))) (fun w hS => t44 r most (N) (by omega) (by omega) hS) ?_)))))
 rintro v25 w25 ⟨xs25, xs25_l, xs25_b, hS⟩
 refine TW.at hS ?_
 refine TL.a m0 (TL.sub (.hd .t3) (TL.q (TL.m m3 (TL.m m1 (TL.m m10 (TL.m m5 (TL.perm p1 (TL.call (r_call ce_39 (.cons (.t m0) (.cons .c .nil))) (fun w hS => t39 r 256 (N + 1 + 2 * most) (by omega) (by omega) hS) ?_))))))))
 rintro _ w30 ⟨y30, rfl, y30_l, hS⟩
 refine TW.at hS ?_
 refine TL.perm p3 (TL.perm p2 (TL.call (r_call ce_52 (.cons (.t m4) (.cons (.t m3) (.cons (.t m2) (.cons (.t m0) .nil))))) (fun w hS => t52 p v25 xs25 f y30 bs (by omega) (by omega) (by omega) xs25_b hS) ?_))
 rintro _ w31 ⟨rfl, ps31, ps31_l, ps31_m, hS⟩
 refine TW.at hS ?_
 refine TL.sub .t6 (TL.q (TL.m m4 (TL.m m1 (TL.perm p3 (TL.w (r_appends (j := xs25.length) (k := h.length) (ds := xs25.map u8) el_22 Tryz.underlying22 (.t m1) (.t m0) m1 (ones_map one_u8) (by omega) (by omega)) ?_)))))
 rintro v34 w34 hS
 have ho34 := hS.slc_one
 refine TW.at hS ?_
 refine TL.fold (A' := (slc 1 v34 ((h.take be ++ (h.drop be ++ xs25)).length) ((h.take be ++ (h.drop be ++ xs25)).map u8))) a0 (slc_eq (by rw [← List.append_assoc, List.take_append_drop, List.length_append]) (by rw [← List.append_assoc, List.take_append_drop]; exact (List.map_append).symm)) ?_
 exact TL.rm .h4 (TL.a m0 (TL.sub (.hd .t3) (TL.e (CT.ret (EX.then_ret (EX.end_ (.inl rfl) (res1 Tryz.results46 m0) (fun _ hS => ⟨h.drop be ++ xs25, _, .stored ps31_l ps31_m (by omega) xs25_b, by rw [List.length_append]; omega, by rw [storedBits_length]; omega, ((((hS.perm p1).tail.perm p2).imp (Rdr_mono (by omega))).perm p2).perm p2⟩)))))))
theorem t46_1 (r p N : Nat) (vo : Value) (h : List Nat) (bs : List Bool) (f : Bool) (be most : Nat) (hm : most ≤ 200) (hbe : be ≤ h.length) (hl : h.length < 1048576) (hb : bs.length < 68719476736) (hN : N < 68719476736) {G : World} {R : List HProp} {w : World} (hS : Sat G w (slc 1 vo h.length (h.map u8) :: Wr p bs :: Rdr G r (N) :: R)) :
 CallsR Tryz.prog 46 #[(.pointer (some ⟨r, 0, none⟩)), (.pointer (some ⟨p, 0, none⟩)), vo, (.int .i64 (-((be : Nat) : Int))), (.int .i64 1), (i64 most), (.bool f)] w (fun v w' => ∃ (h1 : List Nat) (b : List Bool), IsBlk bs.length f (h.drop be) b h1 ∧ h1.length ≤ (h.drop be).length + 258 * most ∧ b.length ≤ 1073741824 ∧ Sat G w' (slc 1 v (h.take be ++ h1).length ((h.take be ++ h1).map u8) :: Wr p (bs ++ b) :: Rdr G r (N + 1073741824) :: R)) := by
 refine calls_in (n := 56) [(0, (.pointer (some ⟨r, 0, none⟩))), (1, (.pointer (some ⟨p, 0, none⟩))), (2, vo), (3, (.int .i64 (-((be : Nat) : Int)))), (4, (.int .i64 1)), (5, (i64 most)), (6, (.bool f))] Tryz.func46 rfl rfl hS args7 ?_
 refine CT.q (TL.val (r_asg .c) (TL.e (CT.seq (CT.q (TL.m m5 (TL.val (show Run _ _ _ _ _ _ (.bool false) from n_eql 1 3 (.t m0) .c rfl rfl) (TL.sub (.hd .t1) (TL.e (CT.iff_ m0 ?_)))))))))
 refine CT.sub .t1 (CT.skip (EX.seq (CT.seq (CT.q (TL.m m5 (TL.val (show Run _ _ _ _ _ _ (.bool false) from n_eql 1 0 (.t m0) .c rfl rfl) (TL.sub (.hd .t1) (TL.e (CT.iff_ m0 ?_)))))))))
 refine CT.sub .t1 (CT.skip (EX.q (TL.m m1 (TL.m m4 (TL.val (r_lens Tryz.underlying22 (.t m0) m0) (TL.m m7 (TL.val (r_add (z := (((h.length - be) : Nat) : Int)) (.t m1) (.t m0) (wi (by omega))) (TL.m m11 (TL.perm p2 (TL.call (r_call ce_59 (.cons (.t m5) (.cons (.t m1) (.cons (.t m0) .nil)))) (fun w hS => t59 r ((h.length - be)) most (N) (by omega) (by omega) (by omega) hS) ?_))))))))))
 rintro v41 w41 ⟨its, itl, itok, hS⟩
 refine TW.at hS ?_
 refine TL.a m0 (TL.sub (.hd (.tl (.tl (.tl (.tl (.tl (.tl (.tl (.hd (.hd (.hd (.hd .t1)))))))))))) (TL.e (CT.seq (CT.q (TL.m m5 (TL.val (show Run _ _ _ _ _ _ (.bool true) from n_eql 1 1 (.t m0) .c rfl rfl) (TL.sub (.hd .t1) (TL.e (CT.ift m0 ?_)))))))))
 refine CT.sub .t1 (CT.region (TL.m m3 (TL.m m1 (TL.m m9 (TL.perm p3 (TL.call (r_call ce_54 (.cons (.t m2) (.cons (.t m1) (.cons (.t m0) .nil)))) (fun w hS => t54' p v41 its f bs _ itok (by omega) (by omega) hS) ?_))))))
 rintro _ w47 ⟨rfl, hd, b1, ls, ds, hhd, hib, hbl, hS⟩
 refine TW.at hS ?_
 refine TL.sub .t4 (TL.q (TL.m m4 (TL.m m1 (TL.perm p1 (TL.perm p3 (TL.call (r_call ce_56 (.cons (.t m1) (.cons (.t m0) .nil))) (fun w hS => t56 vo v41 h its _ itok (by omega) hl (by omega) hS) ?_))))))
 rintro v55 w55 hS
 refine TW.at hS ?_
 refine TL.rm .h4 (TL.a m0 (TL.sub (.hd .t3) (TL.e (CT.ret (EX.perm p3 (EX.perm p3 (EX.perm p2 (EX.perm p3 (EX.conv (fun _ h => h.tail) ?_)))))))))
 exact EX.perm p2 (EX.perm p2 (EX.perm p2 (EX.end_ (.inl rfl) (res1 Tryz.results46 m0) (fun _ hS => blk_post hbe itok itl hm hhd hib (by omega) (hS.perm p2 |>.imp (Rdr_mono (N' := N + 1073741824) (by omega)) |>.perm p2 |>.perm p2)))))
end Go.Eng
namespace Go.Eng
open Go Go.Proofs Go.Infl
def BlkC (how most K : Nat) : Prop := ∀ {G w : World} {R : List HProp} (r p N : Nat) (vo : Value) (h : List Nat) (bs : List Bool) (f : Bool) (be : Nat), be ≤ h.length → h.length < 1048576 → bs.length < 68719476736 → N < 68719476736 →
 Sat G w (slc 1 vo h.length (h.map u8) :: Wr p bs :: Rdr G r N :: R) →
 CallsR Tryz.prog 46 #[.pointer (some ⟨r, 0, none⟩), .pointer (some ⟨p, 0, none⟩), vo, .int .i64 (-((be : Nat) : Int)), i64 how, i64 most, .bool f] w (fun v w' => ∃ (h1 : List Nat) (b : List Bool), IsBlk bs.length f (h.drop be) b h1 ∧ h1.length ≤ (h.drop be).length + K ∧ b.length ≤ 1073741824 ∧ Sat G w' (slc 1 v (h.take be ++ h1).length ((h.take be ++ h1).map u8) :: Wr p (bs ++ b) :: Rdr G r (N + 1073741824) :: R))
theorem blkC_0 {most : Nat} (hm : most ≤ 200) : BlkC 0 most most := fun r p N vo h bs f be hbe hl hb hN hS => t46_0 r p N vo h bs f be most hm hbe hl hb hN hS
theorem blkC_1 {most : Nat} (hm : most ≤ 200) : BlkC 1 most (258 * most) := fun r p N vo h bs f be hbe hl hb hN hS => t46_1 r p N vo h bs f be most hm hbe hl hb hN hS
theorem Sat.newWr {G w : World} {R : List HProp} {p : Nat} (h : Sat G w (Eng.blk p 2 (lst [.slice none 0 0, .int .i64 0]) :: R)) : Sat G w (Wr p [] :: R) :=
 Sat.toWr (v := .slice none 0 0) ((nil_slc 1 h).perm (List.Perm.swap _ _ _))
theorem t51 (how blocks most K : Nat) (hB : BlkC how most K) (hK : K ≤ 65536) (hbl : blocks ≤ 7) (r N : Nat) (hN : N < 1073741824) {G : World} {R : List HProp} {w : World} (hS : Sat G w (Rdr G r (N) :: R)) :
 CallsR Tryz.prog 51 #[(.pointer (some ⟨r, 0, none⟩)), (i64 how), (i64 blocks), (i64 most)] w (fun v w' => ∃ (v1 v2 : Value) (bits : List Bool) (h : List Nat), v = .tuple #[v1, v2] ∧ Strm 0 bits [] (h, true) ∧ h.length ≤ 8 * K ∧ bits.length ≤ 8589934592 ∧ Sat G w' (slc 1 v1 (pack bits).length ((pack bits).map u8) :: slc 1 v2 h.length (h.map u8) :: R)) := by
 refine calls_in (n := 39) [(0, (.pointer (some ⟨r, 0, none⟩))), (1, (i64 how)), (2, (i64 blocks)), (3, (i64 most))] Tryz.func51 rfl rfl hS args4 ?_
 refine CT.q (TL.val (r_asg .c) (TL.val (r_asg .c) (TL.q (TL.val (r_build (v := (.agg #[(.slice none 0 0), (.int .i64 0)])) .nil (fun _ => by kernel_rfl)) (TL.w (r_box (F := lst [(.slice none 0 0), (.int .i64 0)]) (.t m0) rfl rfl lst_ok) ?_)))))
 rintro _ w14 ⟨b14, rfl, hS⟩
 refine TW.at hS ?_
 refine TL.a m0 (TL.sub (.hd .t2) (TL.q (TL.val (r_asg .c) (TL.e (CT.seq (CT.q (TL.m m4 (TL.m m7 (TL.perm p1 (TL.call (r_call ce_39 (.cons (.t m1) (.cons (.t m0) .nil))) (fun w hS => t39 r blocks (N) (by omega) (by omega) hS) ?_))))))))))
 rintro _ w17 ⟨y17, rfl, y17_l, hS⟩
 refine TW.at hS ?_
 refine TL.a m0 (TL.sub (.hd (.tl (.tl (.tl (.hd (.hd (.hd (.hd (.hd (.hd .t1)))))))))) (TL.e (CT.block (CT.nilslc 1 ?_))))
 refine CT.perm p2 (CT.conv (fun _ h => h.newWr) ?_)
 refine CT.fold (A' := (Rdr G r (N + 1 + 1073741824 * 0))) a2 (Rdr_mono (by first | (show _ ≤ _; omega) | (show _ ≤ N + 1 + 1073741824 * (k + 1); omega))) (CT.perm p2 (CT.perm p1 (CT.perm p2 (CT.loop (X := Nat × Value × List Nat × List Bool) (fun gx => [(12, (i64 (y17 - gx.1))), (11, gx.2.1), (10, (.pointer (some ⟨b14, 0, none⟩))), (9, (.slice none 0 0)), (8, (.slice none 0 0)), (0, (.pointer (some ⟨r, 0, none⟩))), (1, (i64 how)), (3, (i64 most))]) (fun gx => (slc 1 gx.2.1 ((gx.2.2.1).length) ((gx.2.2.1).map u8)) :: Wr b14 gx.2.2.2 :: Rdr G r (N + 1 + 1073741824 * gx.1) :: R) (fun gx => gx.1 ≤ y17 ∧ Blks 0 gx.2.2.2 [] gx.2.2.1 ∧ (gx.2.2.1).length ≤ gx.1 * K ∧ (gx.2.2.2).length ≤ gx.1 * 1073741824) (fun gx => y17 - gx.1) ((0, (.slice none 0 0), ([] : List Nat), ([] : List Bool))) (⟨Nat.zero_le _, .nil, Nat.zero_le _, Nat.zero_le _⟩) (.refl _) (.eq m0 (by first | rfl | (congr 1 <;> omega)) (.sl 1 7 rfl)) ?_))))
 rintro ⟨k, v, h, bits⟩ ⟨hI1, hI2, hI3, hI4⟩
 replace hI1 : k ≤ y17 := hI1
 replace hI2 : Blks 0 bits [] h := hI2
 replace hI3 : h.length ≤ k * K := hI3
 replace hI4 : bits.length ≤ k * 1073741824 := hI4
 have hI5 : k * K ≤ 8 * K := Nat.mul_le_mul_right _ (by omega)
 refine CT.seq (CT.q (TL.m m0 (TL.val (n_gtr ((y17 - k)) 0 (.t m0) .c rfl rfl) (TL.sub (.hd .t1) (TL.e (CT.ifd m0 (fun c19 => ?_) (fun c19 => ?_)))))))
 ·
  refine CT.sub .t1 (CT.skip (EX.seq (CT.seq (CT.block (CT.region (TL.m m5 (TL.m m3 (TL.m m3 (TL.m m9 (TL.m m11 (TL.perm p2 (TL.perm p2 (TL.perm p2 (TL.call (r_call ce_46 (.cons (.t m4) (.cons (.t m3) (.cons (.t m2) (.cons .c (.cons (.t m1) (.cons (.t m0) (.cons .c .nil)))))))) (fun w hS => hB r b14 (N + 1 + 1073741824 * k) v h bits false 0 (Nat.zero_le _) (by omega) (by omega) (by omega) hS) ?_))))))))))))))
  rintro v27 w27 ⟨h27, d27, h27_b, h27_l, d27_l, hS⟩
  replace h27_b : IsBlk (bits).length false h d27 h27 := h27_b
  replace h27_l : h27.length ≤ (h).length + K := h27_l
  replace hS : Sat G w27 (slc 1 v27 h27.length (h27.map u8) :: Wr b14 (bits ++ d27) :: Rdr G r (N + 1 + 1073741824 * k + 1073741824) :: R) := hS
  refine TW.at hS ?_
  exact TL.rm .h7 (TL.a m0 (TL.sub (.hd .t6) (TL.nil (EX.bnormal (EX.seq (CT.region (TL.m m1 (TL.val (n_sub ((y17 - k)) 1 9223372036854775808 (.t m0) .c rfl rfl (by omega) (by omega)) (TL.rm .h3 (TL.a m0 (TL.sub (.hd .t2) (TL.nil (EX.fold (A' := (Rdr G r (N + 1 + 1073741824 * (k + 1)))) a2 (Rdr_mono (by first | (show _ ≤ _; omega) | (show _ ≤ N + 1 + 1073741824 * (k + 1); omega))) (EX.again ((k + 1, v27, h27, bits ++ d27)) (⟨by omega, hI2.snoc (by rw [Nat.zero_add]; exact h27_b), by show h27.length ≤ (k + 1) * K; rw [Nat.succ_mul]; omega, by show (bits ++ d27).length ≤ (k + 1) * _; rw [List.length_append]; omega⟩) (by show y17 - (k + 1) < y17 - k; omega) (.refl _) (.eq m0 (by first | rfl | (congr 1 <;> omega)) (.sl 1 7 rfl))))))))))))))))
 refine CT.sub .t1 (CT.exit (EX.then_exit (EX.then_exit (EX.out (EX.q (TL.m m5 (TL.m m3 (TL.m m3 (TL.m m9 (TL.m m11 (TL.perm p2 (TL.perm p2 (TL.perm p2 (TL.call (r_call ce_46 (.cons (.t m4) (.cons (.t m3) (.cons (.t m2) (.cons .c (.cons (.t m1) (.cons (.t m0) (.cons .c .nil)))))))) (fun w hS => hB r b14 (N + 1 + 1073741824 * k) v h bits true 0 (Nat.zero_le _) (by omega) (by omega) (by omega) hS) ?_))))))))))))))
 rintro v33 w33 ⟨h33, d33, h33_b, h33_l, d33_l, hS⟩
 replace h33_b : IsBlk (bits).length true h d33 h33 := h33_b
 replace h33_l : h33.length ≤ (h).length + K := h33_l
 replace hS : Sat G w33 (slc 1 v33 h33.length (h33.map u8) :: Wr b14 (bits ++ d33) :: Rdr G r (N + 1 + 1073741824 * k + 1073741824) :: R) := hS
 refine TW.at hS ?_
 refine TL.rm .h7 (TL.a m0 (TL.sub (.hd .t6) (TL.e (CT.seq (CT.perm p1 (CT.wr ?_))))))
 intro vs
 exact CT.region (TL.m m2 (TL.c m0 (TL.f 0 fo_39_0 m0 (TL.val (r_ld (v := vs) Tryz.isAgg22 m0 (.t m0) (by decide) rfl) (TL.m m4 (TL.rm .h9 (TL.a m1 (TL.rm .h9 (TL.a m1 (TL.sub (.hd (.hd .t5)) (TL.e (CT.ret (EX.end_ (.inl rfl) (res2 Tryz.results51 m1 m0) (fun _ hS => ⟨vs, v33, bits ++ d33, h33, rfl, ⟨bits, d33, h, rfl, hI2, .inl ⟨rfl, by rw [Nat.zero_add]; exact h33_b⟩⟩, by have := Nat.mul_le_mul_right K (show k + 1 ≤ 8 by omega); rw [Nat.succ_mul] at this; omega, by rw [List.length_append]; omega, keep2 hS.tail⟩))))))))))))))
theorem t29 {G : World} (cv : Value) (hc : CodeOf G cv) {R : List HProp} {w : World} (hS : Sat G w (R)) :
 CallsR Tryz.prog 29 #[cv] w (fun v w' => ∃ (v1 v2 : Value) (bits : List Bool) (h : List Nat), v = .tuple #[v1, v2] ∧ Strm 0 bits [] (h, true) ∧ h.length ≤ 131072 ∧ bits.length ≤ 8589934592 ∧ Sat G w' (slc 1 v1 (pack bits).length ((pack bits).map u8) :: slc 1 v2 h.length (h.map u8) :: R)) := by
 refine calls_in (n := 9) [(0, cv)] Tryz.func29 rfl rfl hS args1 ?_
 refine CT.q (TL.val (r_asg .c) (TL.val (r_asg .c) (TL.q (TL.m m2 (TL.call (r_call ce_35 (.cons (.t m0) .nil)) (fun w hS => t35 _ hc hS) ?_)))))
 rintro _ w5 ⟨b5, rfl, hS⟩
 refine TW.at hS ?_
 refine TL.call (r_call ce_51 (.cons (.t m0) (.cons .c (.cons .c (.cons .c .nil))))) (fun w hS => t51 0 5 60 60 (blkC_0 (by decide)) (by decide) (by omega) b5 0 (by omega) hS) ?_
 rintro _ w6 ⟨v1, v2, bits, h, rfl, hst, hhl, hbl, hS⟩
 refine TW.at hS ?_
 exact TL.val (r_ext (.t m0)) (TL.val (r_ext (.t m1)) (TL.rm .h6 (TL.a m1 (TL.rm .h6 (TL.a m1 (TL.sub (.hd (.hd .t6)) (TL.e (CT.ret (EX.end_ (.inl rfl) (res2 Tryz.results29 m1 m0) (fun _ hS => ⟨v1, v2, bits, h, rfl, hst, by omega, hbl, hS⟩))))))))))
theorem t26 {G : World} (cv : Value) (hc : CodeOf G cv) {R : List HProp} {w : World} (hS : Sat G w (R)) :
 CallsR Tryz.prog 26 #[cv] w (fun v w' => ∃ (v1 v2 : Value) (bits : List Bool) (h : List Nat), v = .tuple #[v1, v2] ∧ Strm 0 bits [] (h, true) ∧ h.length ≤ 131072 ∧ bits.length ≤ 8589934592 ∧ Sat G w' (slc 1 v1 (pack bits).length ((pack bits).map u8) :: slc 1 v2 h.length (h.map u8) :: R)) := by
 refine calls_in (n := 9) [(0, cv)] Tryz.func26 rfl rfl hS args1 ?_
 refine CT.q (TL.val (r_asg .c) (TL.val (r_asg .c) (TL.q (TL.m m2 (TL.call (r_call ce_35 (.cons (.t m0) .nil)) (fun w hS => t35 _ hc hS) ?_)))))
 rintro _ w5 ⟨b5, rfl, hS⟩
 refine TW.at hS ?_
 refine TL.call (r_call ce_51 (.cons (.t m0) (.cons .c (.cons .c (.cons .c .nil))))) (fun w hS => t51 1 4 40 (258 * 40) (blkC_1 (by decide)) (by decide) (by omega) b5 0 (by omega) hS) ?_
 rintro _ w6 ⟨v1, v2, bits, h, rfl, hst, hhl, hbl, hS⟩
 refine TW.at hS ?_
 exact TL.val (r_ext (.t m0)) (TL.val (r_ext (.t m1)) (TL.rm .h6 (TL.a m1 (TL.rm .h6 (TL.a m1 (TL.sub (.hd (.hd .t6)) (TL.e (CT.ret (EX.end_ (.inl rfl) (res2 Tryz.results26 m1 m0) (fun _ hS => ⟨v1, v2, bits, h, rfl, hst, by omega, hbl, hS⟩))))))))))
end Go.Eng
namespace Go.Eng
open Go Go.Proofs Go.Infl
theorem exg3 {p : Program} {f : FuncId} {a : Array Value} {w : World} {P : Value → World → Prop} (h : CallsR p f a w (fun v w' => ∃ (v1 : Value) (c u : Nat), v = .tuple #[v1, i64 c, i64 u] ∧ (true = true ∧ c = 1 ∨ true = false ∧ c = 2) ∧ P v1 w')) :
 CallsR p f a w (fun v w' => ∃ (v1 : Value) (u : Nat), v = .tuple #[v1, i64 1, i64 u] ∧ P v1 w') := by
 refine CallsR.mono h ?_
 rintro v w' ⟨v1, c, u, e, hc, hS⟩
 rcases hc with ⟨_, rfl⟩ | ⟨h, _⟩
 ·
  exact ⟨v1, u, e, hS⟩
 cases h
theorem exg2 {p : Program} {f : FuncId} {a : Array Value} {w : World} {P : Value → World → Prop} (h : CallsR p f a w (fun v w' => ∃ (v1 : Value) (c : Nat), v = .tuple #[v1, i64 c] ∧ (true = true ∧ c = 1 ∨ true = false ∧ c = 3) ∧ P v1 w')) :
 CallsR p f a w (fun v w' => ∃ (v1 : Value), v = .tuple #[v1, i64 1] ∧ P v1 w') := by
 refine CallsR.mono h ?_
 rintro v w' ⟨v1, c, e, hc, hS⟩
 rcases hc with ⟨_, rfl⟩ | ⟨h, _⟩
 ·
  exact ⟨v1, e, hS⟩
 cases h
theorem t19 {va vb : Value} {xs ys zs : List Nat} (hp : xs = ys ++ zs) (hl : xs.length < 9223372036854775807) {G : World} {R : List HProp} {w : World} (hS : Sat G w (slc 1 va xs.length (xs.map u8) :: slc 1 vb ys.length (ys.map u8) :: R)) :
 CallsR Tryz.prog 19 #[va, vb] w (fun v w' => v = .bool true ∧ Sat G w' (slc 1 va xs.length (xs.map u8) :: slc 1 vb ys.length (ys.map u8) :: R)) := by
 have hlen := congrArg List.length hp
 rw [List.length_append] at hlen
 refine calls_in (n := 26) [(0, va), (1, vb)] Tryz.func19 rfl rfl hS args2 ?_
 refine CT.q (TL.val (r_asg .c) (TL.e (CT.seq (CT.q (TL.m m2 (TL.val (r_lens Tryz.underlying22 (.t m0) m1) (TL.m m3 (TL.val (r_lens Tryz.underlying22 (.t m0) m0) (TL.val (n_gtr ys.length xs.length (.t m2) (.t m0) rfl rfl) (TL.sub (.hd .t4) (TL.e (CT.ifd m0 (fun c10 => ?_) (fun c10 => ?_)))))))))))))
 ·
  exfalso; omega
 refine CT.sub .t1 (CT.skip (EX.seq (CT.seq (CT.q (TL.m m2 (TL.val (r_lens Tryz.underlying22 (.t m0) m1) (TL.val (r_move .c) (TL.sub (.hd (.hd .t1)) (TL.e (CT.block (CT.loop (X := Nat) (fun gx => [(13, (i64 gx)), (12, (i64 ys.length)), (0, va), (1, vb)]) (fun gx => (slc 1 va xs.length (xs.map u8)) :: slc 1 vb ys.length (ys.map u8) :: R) (fun gx => gx ≤ ys.length) (fun gx => ys.length - gx) 0 (Nat.zero_le _) (.refl _) (.cons m0 (.cons m1 (.cons m3 (.cons m4 .nil)))) ?_)))))))))))
 rintro k hI
 refine CT.q (TL.val (n_lss k ys.length (.t m0) (.t m1) rfl rfl) (TL.e (CT.seq (CT.ifd m0 (fun c14 => ?_) (fun c14 => ?_)))))
 ·
  refine CT.sub .t1 (CT.skip (EX.seq (CT.seq (CT.block (CT.q (TL.m m0 (TL.a m0 (TL.sub (.hd .t1) (TL.e (CT.seq ?_))))))))))
  obtain ⟨x1, hx1⟩ : ∃ x1, ys[k]? = some x1 := ⟨_, List.getElem?_eq_getElem c14⟩
  have hx2 : xs[k]? = some x1 := by rw [hp, List.getElem?_append_left c14]; exact hx1
  refine CT.peek m0 (by omega) ?_
  intro d d_c d_v d_k d_l
  refine CT.peek m1 (by omega) ?_
  intro e e_c e_v e_k e_l
  refine CT.still fm (by kernel_rfl) ?_
  refine TS.val (r_move (.t m3)) ?_
  refine TS.val (r_move (.t m1)) ?_
  refine TS.val (r_ia (i := k) (off' := k) Tryz.underlying22 Tryz.sizeOf5 (.te m1 d_v) (.t m0) rfl (by omega) (by omega)) ?_
  refine TS.val (r_lds (u := (u8 x1)) Tryz.isAgg5 m0 d_v (.t m0) (by rw [List.getElem?_map, hx2]; rfl)) ?_
  refine TS.val (r_move (.t m8)) ?_
  refine TS.val (r_move (.t m5)) ?_
  refine TS.val (r_ia (i := k) (off' := k) Tryz.underlying22 Tryz.sizeOf5 (.te m1 e_v) (.t m0) rfl (by omega) (by omega)) ?_
  refine TS.val (r_lds (u := (u8 x1)) Tryz.isAgg5 m1 e_v (.t m0) (by rw [List.getElem?_map, hx1]; rfl)) ?_
  refine TS.val (n_neq x1 x1 (.t m4) (.t m0) rfl rfl) ?_
  refine TS.nil ?_
  refine TL.sub (.hd .t8) (TL.e (CT.ifd m0 (fun c24 => ?_) (fun c24 => ?_)))
  ·
   exfalso; omega
  exact CT.sub .t1 (CT.skip (EX.bnormal (EX.seq (CT.region (TL.val (n_add k 1 9223372036854775808 (.t m1) .c rfl rfl (by omega)) (TL.rm .h2 (TL.m m0 (TL.sub (.hd .t1) (TL.nil (EX.again (k + 1) (by omega) (by omega) (.refl _) (.eq m0 (by first | rfl | (congr 1 <;> omega)) (.sl 2 3 rfl))))))))))))
 exact CT.sub .t1 (CT.exit (EX.then_exit (EX.then_exit (EX.out (EX.q (TL.val (r_asg .c) (TL.e (CT.ret (EX.end_ (.inl rfl) (res1 Tryz.results19 m0) (fun _ hS => ⟨rfl, hS⟩))))))))))
theorem t23 {va vb : Value} {xs : List Nat} (hl : xs.length < 9223372036854775807) {G : World} {R : List HProp} {w : World} (hS : Sat G w (slc 1 va xs.length (xs.map u8) :: slc 1 vb xs.length (xs.map u8) :: R)) :
 CallsR Tryz.prog 23 #[va, vb] w (fun v w' => v = .bool true ∧ Sat G w' (slc 1 va xs.length (xs.map u8) :: slc 1 vb xs.length (xs.map u8) :: R)) := by
 refine calls_in (n := 15) [(0, va), (1, vb)] Tryz.func23 rfl rfl hS args2 ?_
 refine CT.q (TL.val (r_asg .c) (TL.q (TL.m m1 (TL.val (r_lens Tryz.underlying22 (.t m0) m0) (TL.m m4 (TL.val (r_lens Tryz.underlying22 (.t m0) m1) (TL.val (n_eql xs.length xs.length (.t m2) (.t m0) rfl rfl) (TL.m m0 ?_))))))))
 by_cases g10 : xs.length = xs.length
 ·
  refine TL.sub (.eq m0 (congrArg Value.bool (decide_eq_true g10)) (.eq m1 (congrArg Value.bool (decide_eq_true g10)) (.cons m2 (.cons m3 (.cons m4 (.cons m5 (.cons m6 (.cons m7 (.cons m8 .nil))))))))) (TL.gv m0 (r_move (.t m7)) (TL.gv m1 (r_move (.t m9)) (TL.perm p1 (TL.perm p1 (TL.gcall m2 (r_call ce_19 (.cons (.t m1) (.cons (.t m0) .nil))) (fun w hS => t19 (ys := xs) (zs := []) (by simp) (by omega) hS) ?_)))))
  rintro _ w13 ⟨rfl, hS⟩
  refine TW.at hS ?_
  exact TL.val (r_pickt (.t m3) (.t m0)) (TL.rm .h10 (TL.a m0 (TL.sub (.hd .t12) (TL.e (CT.ret (EX.end_ (.inl rfl) (res1 Tryz.results23 m0) (fun _ hS => ⟨rfl, hS⟩)))))))
 exfalso; omega
theorem t10 {G w : World} {cv : Value} {ea eb : Addr} (hc : CodeOf G cv) (hL : LaidIs G ea eb) (hS : Sat G w []) :
 CallsR Tryz.prog 10 #[cv] w (fun v w' => v = .bool true ∧ Sat G w' []) := by
 have hc0 := hc
 obtain rfl | ⟨b, off, c, xs, rfl, hlc, hxs, hx⟩ := hc0
 ·
  refine calls_in (n := 48) [(0, (.slice none 0 0))] Tryz.func10 rfl rfl hS args1 ?_
  refine CT.q (TL.val (r_asg .c) (TL.e (CT.seq (CT.q (TL.m m1 (TL.val (r_len Tryz.underlying22 (.t m0)) (TL.val (show Run _ _ _ _ _ _ (.bool false) from n_gtr 0 2147483647 (.t m0) .c rfl rfl) (TL.sub (.hd .t2) (TL.e (CT.iff_ m0 ?_))))))))))
  refine CT.sub .t1 (CT.skip (EX.seq (CT.seq (CT.q (TL.m m1 (TL.val (r_len Tryz.underlying22 (.t m0)) (TL.val (show Run _ _ _ _ _ _ (.bool false) from n_gtr 0 16777216 (.t m0) .c rfl rfl) (TL.sub (.hd .t2) (TL.e (CT.iff_ m0 ?_))))))))))
  refine CT.sub .t1 (CT.skip (EX.q (TL.m m1 (TL.call (r_call ce_29 (.cons (.t m0) .nil)) (fun w hS => t29 _ hc hS) ?_))))
  rintro _ w18 ⟨v1, v2, bits, h, rfl, hst, hhl, hbl, hS⟩
  refine TW.at hS ?_
  refine TL.m m0 (TL.val (r_ext (.t m0)) (TL.val (r_ext (.t m1)) (TL.a m1 (TL.a m1 (TL.sub (.hd (.hd .t5)) (TL.q (TL.m m1 (TL.call (r_call ce_21 (.cons (.t m0) (.cons .c .nil))) (fun w hS => exg3 (t21 (B := bits) (st0 := bits) (tail0 := []) (outF := h) (gd := true) (by omega) (List.append_nil _).symm hst (by omega) hS)) ?_))))))))
  rintro _ w23 ⟨r1, u, rfl, hS⟩
  refine TW.at hS ?_
  refine TL.m m0 (TL.val (r_ext (.t m0)) (TL.val (r_ext (.t m1)) (TL.val (r_ext (.t m2)) (TL.a m2 (TL.a m2 (TL.a m2 (TL.sub (.tl (.hd (.hd .t6))) (TL.q (TL.m m3 (TL.perm p1 (TL.call (r_call ce_18 (.cons (.t m0) (.cons .c .nil))) (fun w hS => exg2 (t18 (B := bits) (st := bits) (tail := []) (out := h) (gd := true) hL (by omega) (List.append_nil _).symm hst (by omega) hS)) ?_)))))))))))
  rintro _ w29 ⟨o1, rfl, hS⟩
  refine TW.at hS ?_
  refine TL.m m0 (TL.val (r_ext (.t m0)) (TL.val (r_ext (.t m1)) (TL.a m1 (TL.a m1 (TL.sub (.hd (.hd .t5)) (TL.q (TL.m m2 (TL.val (show Run _ _ _ _ _ _ (.bool true) from n_eql 1 1 (.t m0) .c rfl rfl) (TL.m m0 (TL.gv m0 (r_move (.t m6)) (TL.gv m1 (r_move (.t m8)) (TL.perm p3 (TL.perm p3 (TL.gcall m2 (r_call ce_23 (.cons (.t m1) (.cons (.t m0) .nil))) (fun w hS => t23 (xs := h) (by omega) hS) ?_))))))))))))))
  rintro _ w37 ⟨rfl, hS⟩
  refine TW.at hS ?_
  refine TL.val (r_pickt (.t m3) (.t m0)) (TL.m m0 (TL.gv m0 (r_move (.t m8)) (TL.gv m1 (show Run _ _ _ _ _ _ (.bool true) from n_eql 1 1 (.t m0) .c rfl rfl) (TL.val (r_pickt (.t m2) (.t m0)) (TL.m m0 (TL.gv m0 (r_move (.t m13)) (TL.gv m1 (r_move (.t m17)) (TL.perm p1 (TL.perm p2 (TL.gcall m2 (r_call ce_23 (.cons (.t m1) (.cons (.t m0) .nil))) (fun w hS => t23 (xs := h) (by omega) hS) ?_))))))))))
  rintro _ w46 ⟨rfl, hS⟩
  refine TW.at hS ?_
  exact TL.val (r_pickt (.t m3) (.t m0)) (TL.rm .h22 (TL.a m0 (TL.sub (.hd .t21) (TL.e (CT.ret (EX.end_ (.inl rfl) (res1 Tryz.results10 m0) (fun _ hS => ⟨rfl, hS.nil⟩)))))))
 refine calls_in (n := 48) [(0, (.slice (some ⟨b, off, none⟩) xs.length c))] Tryz.func10 rfl rfl hS args1 ?_
 refine CT.q (TL.val (r_asg .c) (TL.e (CT.seq (CT.q (TL.m m1 (TL.val (r_len Tryz.underlying22 (.t m0)) (TL.val (n_gtr xs.length 2147483647 (.t m0) .c rfl rfl) (TL.sub (.hd .t2) (TL.e (CT.ifd m0 (fun c12 => ?_) (fun c12 => ?_)))))))))))
 ·
  exact CT.sub .t1 (CT.q (TL.rm .here (TL.val (r_asg .c) (TL.e (CT.ret (EX.then_ret (EX.end_ (.inl rfl) (res1 Tryz.results10 m0) (fun _ hS => ⟨rfl, hS.nil⟩))))))))
 refine CT.sub .t1 (CT.skip (EX.seq (CT.seq (CT.q (TL.m m1 (TL.val (r_len Tryz.underlying22 (.t m0)) (TL.val (n_gtr xs.length 16777216 (.t m0) .c rfl rfl) (TL.sub (.hd .t2) (TL.e (CT.ifd m0 (fun c15 => ?_) (fun c15 => ?_)))))))))))
 ·
  exact CT.sub .t1 (CT.q (TL.rm .here (TL.val (r_asg .c) (TL.e (CT.ret (EX.then_ret (EX.end_ (.inl rfl) (res1 Tryz.results10 m0) (fun _ hS => ⟨rfl, hS.nil⟩))))))))
 refine CT.sub .t1 (CT.skip (EX.q (TL.m m1 (TL.call (r_call ce_29 (.cons (.t m0) .nil)) (fun w hS => t29 _ hc hS) ?_))))
 rintro _ w18 ⟨v1, v2, bits, h, rfl, hst, hhl, hbl, hS⟩
 refine TW.at hS ?_
 refine TL.m m0 (TL.val (r_ext (.t m0)) (TL.val (r_ext (.t m1)) (TL.a m1 (TL.a m1 (TL.sub (.hd (.hd .t5)) (TL.q (TL.m m1 (TL.call (r_call ce_21 (.cons (.t m0) (.cons .c .nil))) (fun w hS => exg3 (t21 (B := bits) (st0 := bits) (tail0 := []) (outF := h) (gd := true) (by omega) (List.append_nil _).symm hst (by omega) hS)) ?_))))))))
 rintro _ w23 ⟨r1, u, rfl, hS⟩
 refine TW.at hS ?_
 refine TL.m m0 (TL.val (r_ext (.t m0)) (TL.val (r_ext (.t m1)) (TL.val (r_ext (.t m2)) (TL.a m2 (TL.a m2 (TL.a m2 (TL.sub (.tl (.hd (.hd .t6))) (TL.q (TL.m m3 (TL.perm p1 (TL.call (r_call ce_18 (.cons (.t m0) (.cons .c .nil))) (fun w hS => exg2 (t18 (B := bits) (st := bits) (tail := []) (out := h) (gd := true) hL (by omega) (List.append_nil _).symm hst (by omega) hS)) ?_)))))))))))
 rintro _ w29 ⟨o1, rfl, hS⟩
 refine TW.at hS ?_
 refine TL.m m0 (TL.val (r_ext (.t m0)) (TL.val (r_ext (.t m1)) (TL.a m1 (TL.a m1 (TL.sub (.hd (.hd .t5)) (TL.q (TL.m m2 (TL.val (show Run _ _ _ _ _ _ (.bool true) from n_eql 1 1 (.t m0) .c rfl rfl) (TL.m m0 (TL.gv m0 (r_move (.t m6)) (TL.gv m1 (r_move (.t m8)) (TL.perm p3 (TL.perm p3 (TL.gcall m2 (r_call ce_23 (.cons (.t m1) (.cons (.t m0) .nil))) (fun w hS => t23 (xs := h) (by omega) hS) ?_))))))))))))))
 rintro _ w37 ⟨rfl, hS⟩
 refine TW.at hS ?_
 refine TL.val (r_pickt (.t m3) (.t m0)) (TL.m m0 (TL.gv m0 (r_move (.t m8)) (TL.gv m1 (show Run _ _ _ _ _ _ (.bool true) from n_eql 1 1 (.t m0) .c rfl rfl) (TL.val (r_pickt (.t m2) (.t m0)) (TL.m m0 (TL.gv m0 (r_move (.t m13)) (TL.gv m1 (r_move (.t m17)) (TL.perm p1 (TL.perm p2 (TL.gcall m2 (r_call ce_23 (.cons (.t m1) (.cons (.t m0) .nil))) (fun w hS => t23 (xs := h) (by omega) hS) ?_))))))))))
 rintro _ w46 ⟨rfl, hS⟩
 refine TW.at hS ?_
 exact TL.val (r_pickt (.t m3) (.t m0)) (TL.rm .h22 (TL.a m0 (TL.sub (.hd .t21) (TL.e (CT.ret (EX.end_ (.inl rfl) (res1 Tryz.results10 m0) (fun _ hS => ⟨rfl, hS.nil⟩)))))))
theorem t7 {G w : World} {cv : Value} {ea eb : Addr} (hc : CodeOf G cv) (hL : LaidIs G ea eb) (hS : Sat G w []) :
 CallsR Tryz.prog 7 #[cv] w (fun v w' => v = .bool true ∧ Sat G w' []) := by
 have hc0 := hc
 obtain rfl | ⟨b, off, c, xs, rfl, hlc, hxs, hx⟩ := hc0
 ·
  refine calls_in (n := 48) [(0, (.slice none 0 0))] Tryz.func7 rfl rfl hS args1 ?_
  refine CT.q (TL.val (r_asg .c) (TL.e (CT.seq (CT.q (TL.m m1 (TL.val (r_len Tryz.underlying22 (.t m0)) (TL.val (show Run _ _ _ _ _ _ (.bool false) from n_gtr 0 2147483647 (.t m0) .c rfl rfl) (TL.sub (.hd .t2) (TL.e (CT.iff_ m0 ?_))))))))))
  refine CT.sub .t1 (CT.skip (EX.seq (CT.seq (CT.q (TL.m m1 (TL.val (r_len Tryz.underlying22 (.t m0)) (TL.val (show Run _ _ _ _ _ _ (.bool false) from n_gtr 0 16777216 (.t m0) .c rfl rfl) (TL.sub (.hd .t2) (TL.e (CT.iff_ m0 ?_))))))))))
  refine CT.sub .t1 (CT.skip (EX.q (TL.m m1 (TL.call (r_call ce_26 (.cons (.t m0) .nil)) (fun w hS => t26 _ hc hS) ?_))))
  rintro _ w18 ⟨v1, v2, bits, h, rfl, hst, hhl, hbl, hS⟩
  refine TW.at hS ?_
  refine TL.m m0 (TL.val (r_ext (.t m0)) (TL.val (r_ext (.t m1)) (TL.a m1 (TL.a m1 (TL.sub (.hd (.hd .t5)) (TL.q (TL.m m1 (TL.call (r_call ce_21 (.cons (.t m0) (.cons .c .nil))) (fun w hS => exg3 (t21 (B := bits) (st0 := bits) (tail0 := []) (outF := h) (gd := true) (by omega) (List.append_nil _).symm hst (by omega) hS)) ?_))))))))
  rintro _ w23 ⟨r1, u, rfl, hS⟩
  refine TW.at hS ?_
  refine TL.m m0 (TL.val (r_ext (.t m0)) (TL.val (r_ext (.t m1)) (TL.val (r_ext (.t m2)) (TL.a m2 (TL.a m2 (TL.a m2 (TL.sub (.tl (.hd (.hd .t6))) (TL.q (TL.m m3 (TL.perm p1 (TL.call (r_call ce_18 (.cons (.t m0) (.cons .c .nil))) (fun w hS => exg2 (t18 (B := bits) (st := bits) (tail := []) (out := h) (gd := true) hL (by omega) (List.append_nil _).symm hst (by omega) hS)) ?_)))))))))))
  rintro _ w29 ⟨o1, rfl, hS⟩
  refine TW.at hS ?_
  refine TL.m m0 (TL.val (r_ext (.t m0)) (TL.val (r_ext (.t m1)) (TL.a m1 (TL.a m1 (TL.sub (.hd (.hd .t5)) (TL.q (TL.m m2 (TL.val (show Run _ _ _ _ _ _ (.bool true) from n_eql 1 1 (.t m0) .c rfl rfl) (TL.m m0 (TL.gv m0 (r_move (.t m6)) (TL.gv m1 (r_move (.t m8)) (TL.perm p3 (TL.perm p3 (TL.gcall m2 (r_call ce_23 (.cons (.t m1) (.cons (.t m0) .nil))) (fun w hS => t23 (xs := h) (by omega) hS) ?_))))))))))))))
  rintro _ w37 ⟨rfl, hS⟩
  refine TW.at hS ?_
  refine TL.val (r_pickt (.t m3) (.t m0)) (TL.m m0 (TL.gv m0 (r_move (.t m8)) (TL.gv m1 (show Run _ _ _ _ _ _ (.bool true) from n_eql 1 1 (.t m0) .c rfl rfl) (TL.val (r_pickt (.t m2) (.t m0)) (TL.m m0 (TL.gv m0 (r_move (.t m13)) (TL.gv m1 (r_move (.t m17)) (TL.perm p1 (TL.perm p2 (TL.gcall m2 (r_call ce_23 (.cons (.t m1) (.cons (.t m0) .nil))) (fun w hS => t23 (xs := h) (by omega) hS) ?_))))))))))
  rintro _ w46 ⟨rfl, hS⟩
  refine TW.at hS ?_
  exact TL.val (r_pickt (.t m3) (.t m0)) (TL.rm .h22 (TL.a m0 (TL.sub (.hd .t21) (TL.e (CT.ret (EX.end_ (.inl rfl) (res1 Tryz.results7 m0) (fun _ hS => ⟨rfl, hS.nil⟩)))))))
 refine calls_in (n := 48) [(0, (.slice (some ⟨b, off, none⟩) xs.length c))] Tryz.func7 rfl rfl hS args1 ?_
 refine CT.q (TL.val (r_asg .c) (TL.e (CT.seq (CT.q (TL.m m1 (TL.val (r_len Tryz.underlying22 (.t m0)) (TL.val (n_gtr xs.length 2147483647 (.t m0) .c rfl rfl) (TL.sub (.hd .t2) (TL.e (CT.ifd m0 (fun c12 => ?_) (fun c12 => ?_)))))))))))
 ·
  exact CT.sub .t1 (CT.q (TL.rm .here (TL.val (r_asg .c) (TL.e (CT.ret (EX.then_ret (EX.end_ (.inl rfl) (res1 Tryz.results7 m0) (fun _ hS => ⟨rfl, hS.nil⟩))))))))
 refine CT.sub .t1 (CT.skip (EX.seq (CT.seq (CT.q (TL.m m1 (TL.val (r_len Tryz.underlying22 (.t m0)) (TL.val (n_gtr xs.length 16777216 (.t m0) .c rfl rfl) (TL.sub (.hd .t2) (TL.e (CT.ifd m0 (fun c15 => ?_) (fun c15 => ?_)))))))))))
 ·
  exact CT.sub .t1 (CT.q (TL.rm .here (TL.val (r_asg .c) (TL.e (CT.ret (EX.then_ret (EX.end_ (.inl rfl) (res1 Tryz.results7 m0) (fun _ hS => ⟨rfl, hS.nil⟩))))))))
 refine CT.sub .t1 (CT.skip (EX.q (TL.m m1 (TL.call (r_call ce_26 (.cons (.t m0) .nil)) (fun w hS => t26 _ hc hS) ?_))))
 rintro _ w18 ⟨v1, v2, bits, h, rfl, hst, hhl, hbl, hS⟩
 refine TW.at hS ?_
 refine TL.m m0 (TL.val (r_ext (.t m0)) (TL.val (r_ext (.t m1)) (TL.a m1 (TL.a m1 (TL.sub (.hd (.hd .t5)) (TL.q (TL.m m1 (TL.call (r_call ce_21 (.cons (.t m0) (.cons .c .nil))) (fun w hS => exg3 (t21 (B := bits) (st0 := bits) (tail0 := []) (outF := h) (gd := true) (by omega) (List.append_nil _).symm hst (by omega) hS)) ?_))))))))
 rintro _ w23 ⟨r1, u, rfl, hS⟩
 refine TW.at hS ?_
 refine TL.m m0 (TL.val (r_ext (.t m0)) (TL.val (r_ext (.t m1)) (TL.val (r_ext (.t m2)) (TL.a m2 (TL.a m2 (TL.a m2 (TL.sub (.tl (.hd (.hd .t6))) (TL.q (TL.m m3 (TL.perm p1 (TL.call (r_call ce_18 (.cons (.t m0) (.cons .c .nil))) (fun w hS => exg2 (t18 (B := bits) (st := bits) (tail := []) (out := h) (gd := true) hL (by omega) (List.append_nil _).symm hst (by omega) hS)) ?_)))))))))))
 rintro _ w29 ⟨o1, rfl, hS⟩
 refine TW.at hS ?_
 refine TL.m m0 (TL.val (r_ext (.t m0)) (TL.val (r_ext (.t m1)) (TL.a m1 (TL.a m1 (TL.sub (.hd (.hd .t5)) (TL.q (TL.m m2 (TL.val (show Run _ _ _ _ _ _ (.bool true) from n_eql 1 1 (.t m0) .c rfl rfl) (TL.m m0 (TL.gv m0 (r_move (.t m6)) (TL.gv m1 (r_move (.t m8)) (TL.perm p3 (TL.perm p3 (TL.gcall m2 (r_call ce_23 (.cons (.t m1) (.cons (.t m0) .nil))) (fun w hS => t23 (xs := h) (by omega) hS) ?_))))))))))))))
 rintro _ w37 ⟨rfl, hS⟩
 refine TW.at hS ?_
 refine TL.val (r_pickt (.t m3) (.t m0)) (TL.m m0 (TL.gv m0 (r_move (.t m8)) (TL.gv m1 (show Run _ _ _ _ _ _ (.bool true) from n_eql 1 1 (.t m0) .c rfl rfl) (TL.val (r_pickt (.t m2) (.t m0)) (TL.m m0 (TL.gv m0 (r_move (.t m13)) (TL.gv m1 (r_move (.t m17)) (TL.perm p1 (TL.perm p2 (TL.gcall m2 (r_call ce_23 (.cons (.t m1) (.cons (.t m0) .nil))) (fun w hS => t23 (xs := h) (by omega) hS) ?_))))))))))
 rintro _ w46 ⟨rfl, hS⟩
 refine TW.at hS ?_
 exact TL.val (r_pickt (.t m3) (.t m0)) (TL.rm .h22 (TL.a m0 (TL.sub (.hd .t21) (TL.e (CT.ret (EX.end_ (.inl rfl) (res1 Tryz.results7 m0) (fun _ hS => ⟨rfl, hS.nil⟩)))))))
end Go.Eng
namespace Go.Proofs.YtkpadembffdepaaGreatDoor
open Go Go.ChangeShapes Go.WideShapes Go.ChangeAt Go.RowKit Go.Eng
theorem own : ownKnob Tryz.prog.godebug = none := by kernel_rfl
theorem gEOF : Tryz.prog.globalNamed "io.EOF" = some 0 := by kernel_rfl
theorem gEOFt : (Tryz.prog.globals[0]?).map (·.type) = some 82 := by kernel_rfl
theorem cells5 : Tryz.prog.cellsOf 5 = 1 := by kernel_rfl
theorem laidFlat : (Rows.fnExactStoredRow.laid.filter fun x => x.2.handleName?.isNone) = [("io.ErrShortBuffer", Rows.laid_io_ErrShortBuffer), ("io.EOF", Rows.laid_io_EOF), ("io.ErrUnexpectedEOF", Rows.laid_io_ErrUnexpectedEOF), ("loop.example/pub-inflation/pub/inflate.codeOrder", Rows.laid_loop_example_pub_inflation_pub_inflate_codeOrder)] := by kernel_rfl
theorem laidHand : (Rows.fnExactStoredRow.laid.filter fun x => x.2.handleName?.isSome) = [("errors.errorType", Rows.laid_errors_errorType)] := by kernel_rfl
theorem laid_flat {W : World} (h : laidMetH Tryz.prog Rows.fnExactStoredRow.laid W) : laidMet Tryz.prog [("io.ErrShortBuffer", Rows.laid_io_ErrShortBuffer), ("io.EOF", Rows.laid_io_EOF), ("io.ErrUnexpectedEOF", Rows.laid_io_ErrUnexpectedEOF), ("loop.example/pub-inflation/pub/inflate.codeOrder", Rows.laid_loop_example_pub_inflation_pub_inflate_codeOrder)] W := by
 unfold laidMetH at h
 rw [laidHand, laidFlat] at h
 exact h.1
theorem star : "*" ++ "errors.errorString" = "*errors.errorString" := by decide
theorem row187 (u : TypeId) (h : Tryz.prog.typeName? 3 u = some "*errors.errorString") : u = 187 :=
 typeName_ptr_named (nm := "errors.errorString") (by rw [star]; kernel_rfl) (by kernel_rfl) (by decide) u (by rw [star]; exact h)
theorem sentinel_cell {W : World} {g : Nat} {cs : Array Value} {fuel : Nat} {p : List MemPlace} {s : List UInt8} {n : String} (hg : Tryz.prog.globalNamed n = some g) (hvar : W.var? Tryz.prog n = some cs)
 (hd : DataW.trod (fun _ => ()) Tryz.prog W 0 (fun _ => true) false fuel 82 cs.toList = some (.iface "*errors.errorString" (.ptr (.agg [.lit (.string s)])), p))
 (hok : ∀ u v, W.cell? ⟨g, 0, none⟩ = some (.iface u v) → Value.okWide Tryz.prog W .any 0 u v) : ∃ ea, W.cell? ⟨g, 0, none⟩ = some (.iface 187 (.pointer (some ea))) := by
 cases fuel with
 | zero => simp [DataW.trod] at hd
 | succ fuel =>
  rcases hcs : cs.toList with _ | ⟨x, _ | ⟨y, l⟩⟩
  ·
   rw [hcs] at hd; simp [DataW.trod, Tryz.underlying82] at hd
  ·
   rw [hcs] at hd
   have hc0 : W.cell? ⟨g, 0, none⟩ = some x := by
    have := World.var?_cell hg hvar 0
    rw [this, ← Array.getElem?_toList, hcs]; rfl
   cases x with
   | iface u v =>
    simp only [DataW.trod, Tryz.underlying82] at hd
    cases hn : Tryz.prog.typeName? 3 u with
    | none => rw [hn] at hd; cases hd
    | some name =>
     rw [hn] at hd
     simp only [Option.map_eq_some_iff] at hd
     obtain ⟨y, hy, he⟩ := hd
     simp only [Prod.mk.injEq, DataW.iface.injEq] at he
     obtain ⟨⟨rfl, he1⟩, he2⟩ := he
     obtain rfl := row187 u hn
     obtain ⟨a0, rfl⟩ := okWide_pointer Tryz.underlying187 (hok _ _ hc0)
     cases a0 with
     | some ea => exact ⟨ea, hc0⟩
     | none =>
      exfalso
      cases fuel with
      | zero => simp [DataW.trod] at hy
      | succ fuel =>
       simp [DataW.trod, Tryz.underlying187, Value.cells] at hy
       rw [← hy] at he1
       cases he1
   | _ => simp [DataW.trod, Tryz.underlying82] at hd
  rw [hcs] at hd; simp [DataW.trod, Tryz.underlying82] at hd
theorem gUE : Tryz.prog.globalNamed "io.ErrUnexpectedEOF" = some 1 := by kernel_rfl
theorem gUEt : (Tryz.prog.globals[1]?).map (·.type) = some 82 := by kernel_rfl
theorem gOrdt : (Tryz.prog.globals[3]?).map (·.type) = some 106 := by kernel_rfl
theorem gOrd : Tryz.prog.globalNamed "loop.example/pub-inflation/pub/inflate.codeOrder" = some 3 := by kernel_rfl
theorem gEt : Tryz.prog.globalNamed "errors.errorType" = some 2 := by kernel_rfl
theorem rtRow : (Tryz.prog.cutTypes.find? (·.1 == "internal/reflectlite.rtype")).map (·.2) = some 170 := by kernel_rfl
theorem errRow : ((List.range 218).filter fun t => Tryz.prog.rowNamed t [101, 114, 114, 111, 114]) = [82] := by kernel_rfl
theorem typesSize : Tryz.prog.types.size = 218 := by kernel_rfl
theorem cells106 : Tryz.prog.cellsOf 106 = 19 := by kernel_rfl
theorem cells3 : Tryz.prog.cellsOf 3 = 1 := by kernel_rfl
theorem et_of_laid {W : World} (h : laidMetH Tryz.prog Rows.fnExactStoredRow.laid W) : W.cell? ⟨2, 0, none⟩ = some (.iface 170 (.agg #[.pointer (some ⟨7, 82, none⟩)])) := by
 unfold laidMetH at h
 rw [laidHand, laidFlat] at h
 obtain ⟨name, u, ty, e1, e2, e3, e4, e5⟩ := h.2 _ (List.mem_singleton.2 rfl)
 have en : name = [101, 114, 114, 111, 114] := (Option.some.inj e1).symm
 subst en
 obtain rfl := Option.some.inj (rtRow.symm.trans e2)
 have hm : ty ∈ (List.range 218).filter fun t => Tryz.prog.rowNamed t [101, 114, 114, 111, 114] := List.mem_filter.2 ⟨List.mem_range.2 (by rw [← typesSize]; exact e3), e4⟩
 rw [errRow] at hm
 obtain rfl := List.mem_singleton.1 hm
 have hh : typeHandle Tryz.prog 82 = .pointer (some ⟨7, 82, none⟩) := by kernel_rfl
 rw [hh] at e5
 simpa using World.var?_cell gEt e5 0
theorem laid_is {W : World} (h : laidMetH Tryz.prog Rows.fnExactStoredRow.laid W) : ∃ ea eb, LaidIs W ea eb := by
 have het := et_of_laid h
 obtain ⟨ps, ⟨_, _, _, _, _, _, _, _, _, _, ⟨g, t, cs, fuel, p, q, hg, ht, hvar, hd, ⟨g1, t1, cs1, fuel1, p1, q1, hg1, ht1, hvar1, hd1, ⟨g2, t2, cs2, fuel2, p2, q2, hg2, ht2, hvar2, hd2, _, hps3⟩, hps2⟩, hps1⟩, hps0⟩, _, hok⟩ := laid_flat h
 obtain rfl := Option.some.inj (gEOF.symm.trans hg)
 obtain rfl := Option.some.inj (gEOFt.symm.trans ht)
 obtain rfl := Option.some.inj (gUE.symm.trans hg1)
 obtain rfl := Option.some.inj (gUEt.symm.trans ht1)
 obtain rfl := Option.some.inj (gOrd.symm.trans hg2)
 obtain rfl := Option.some.inj (gOrdt.symm.trans ht2)
 have hsize : ∀ {n : String} {g : Nat} {cs : Array Value} {x : Value}, Tryz.prog.globalNamed n = some g → W.var? Tryz.prog n = some cs → W.cell? ⟨g, 0, none⟩ = some x → 0 < cs.size := fun {n g cs x} hg hvar hc => by
  rcases Nat.eq_zero_or_pos cs.size with h0 | h0
  ·
   have := World.var?_cell hg hvar 0
   rw [Array.getElem?_eq_none (by omega)] at this
   rw [this] at hc; cases hc
  exact h0
 obtain ⟨ea, h1⟩ := sentinel_cell hg hvar hd fun u v hc => by
  refine (hok 0 0 ?_).2 u v hc
  have hsz := hsize hg hvar hc
  rw [hps0, hps1]
  simp only [List.mem_append, MemPlace.row, List.mem_map, List.mem_range]
  exact .inr (.inl (.inl ⟨0, hsz, rfl⟩))
 obtain ⟨eb, h2⟩ := sentinel_cell hg1 hvar1 hd1 fun u v hc => by
  refine (hok 1 0 ?_).2 u v hc
  have hsz := hsize hg1 hvar1 hc
  rw [hps0, hps1, hps2]
  simp only [List.mem_append, MemPlace.row, List.mem_map, List.mem_range]
  exact .inr (.inr (.inl (.inl ⟨0, hsz, rfl⟩)))
 refine ⟨ea, eb, h1, h2, fun i hi => ?_, het⟩
 have hcs : cs2.toList = (Go.Infl.ordr.map fun n : Nat => (n : Int)).map fun z => Value.int .i64 z := Lib.cells_of_tab (k := .i64) Tryz.underlying106 Tryz.underlying3 cells3 cells106 (zs := Go.Infl.ordr.map fun n : Nat => (n : Int)) hd2
 have := World.var?_cell hg2 hvar2 i
 rw [this, ← Array.getElem?_toList, hcs]
 have hi' : i < Go.Infl.ordr.length := hi
 rw [List.getElem?_map, List.getElem?_map, List.getD_eq_getElem?_getD, List.getElem?_eq_getElem hi']
 rfl
theorem code_of_arg {W : World} {base : Nat} {H : Type} {enc : TypeId × Value → H} {v : Value} {d : DataW H} {p : List MemPlace} (hval : Value.okWide Tryz.prog W .any base 22 v) (hd : DataW.Trod enc Tryz.prog W 0 (fun _ => true) true 22 v d p) :
 CodeOf W v ∧ ∀ (W' : World) (sp : Nat → Bool), (∀ x ∈ p, W.sameAt W' x) → (∀ x ∈ p, sp x.block = true) → DataW.Trod enc Tryz.prog W' 0 sp true 22 v d p := by
 obtain ⟨a1, len, cap, rfl⟩ := okWide_slice Tryz.underlying22 hval
 obtain ⟨fuel, hf⟩ := hd
 rcases open_ints Tryz.underlying22 Tryz.underlying5 cells5 hf with ⟨hcs, hx⟩ | ⟨a, len', cap', zs, hcs, _, hl, hm, hz, hx, hcell, hwz⟩
 ·
  simp [Value.cells] at hcs
  obtain ⟨rfl, rfl, rfl⟩ := hcs
  simp only [Prod.mk.injEq] at hx
  obtain ⟨rfl, rfl⟩ := hx
  exact ⟨.inl rfl, fun W' sp _ _ => shut_slice_nil Tryz.underlying22⟩
 simp [Value.cells] at hcs
 obtain ⟨rfl, rfl, rfl⟩ := hcs
 simp only [Prod.mk.injEq] at hx
 obtain ⟨rfl, rfl⟩ := hx
 simp only [if_true] at hz
 have hspot : a.spot = none := by
  simp only [Value.okWide, Tryz.underlying22, Cell.okWide, Cell.ok] at hval
  exact hval.2.2.2.1
 obtain ⟨b, off, spot⟩ := a
 obtain rfl : spot = none := hspot
 have hc : ∀ j, j < zs.length → W.cell? ⟨b, off + j, none⟩ = some (.int .u8 (zs.getD j 0)) := fun j hj => by rw [← add_plain]; exact hcell j hj
 have hu : ∀ n ∈ zs, 0 ≤ n ∧ n < 256 := fun n hn => by
  have := hwz n hn
  simp [Lit.wf, IntKind.min, IntKind.max, IntKind.signed, IntKind.bits] at this
  omega
 refine ⟨.inr ⟨b, off, cap, (zs.take len).map Int.toNat, ?_, ?_, ?_, ?_⟩, fun W' sp hs hsp => ⟨2, ?_⟩⟩
 ·
  rw [List.length_map, List.length_take, Nat.min_eq_left (by omega)]
 ·
  rw [List.length_map, List.length_take]; omega
 ·
  intro x hx
  obtain ⟨n, hn, rfl⟩ := List.mem_map.1 hx
  have := hu n (List.mem_of_mem_take hn)
  omega
 ·
  intro j x hj
  rw [List.getElem?_map, List.getElem?_take] at hj
  split at hj
  ·
   cases hz2 : zs[j]? with
   | none => rw [hz2] at hj; cases hj
   | some n =>
    rw [hz2] at hj
    have hx : n.toNat = x := Option.some.inj hj
    subst hx
    obtain ⟨hlt, hn⟩ := List.getElem?_eq_some_iff.1 hz2
    rw [hc j hlt, List.getD_eq_getElem?_getD, hz2]
    have := hu n (List.mem_of_getElem? hz2)
    show some (Value.int .u8 n) = some (Value.int .u8 (n.toNat : Int))
    rw [Int.toNat_of_nonneg this.1]
  cases hj
 refine shut_ints' 0 Tryz.underlying22 Tryz.underlying5 cells5 (Nat.zero_le _) hl hm ?_ ?_ hwz
 ·
  rw [hz]
  rcases Nat.eq_zero_or_pos cap with h0 | h0
  ·
   split <;> omega
  rw [if_pos (show sp b = true from hsp (.cell b off) (by simp only [MemPlace.row, List.mem_map, List.mem_range]; exact ⟨0, by omega, rfl⟩))]
 intro j hj
 have := hs (.cell b (off + j)) (by simp only [MemPlace.row, List.mem_map, List.mem_range]; exact ⟨j, hj, rfl⟩)
 rw [show W'.cell? ⟨b, off + j, none⟩ = W.cell? ⟨b, off + j, none⟩ from this]
 exact hc j hj
end Go.Proofs.YtkpadembffdepaaGreatDoor
namespace Go.Proofs.YtkpadembffdepaaGreatDoor
open Go Go.ChangeShapes Go.WideShapes Go.ChangeAt Go.RowKit Go.Eng
theorem same_of_sat {W W' : World} {L : List HProp} (h : Sat W W' L) {p : MemPlace} (hb : p.block < W.heap.size) : W.sameAt W' p := by
 cases p with
 | cell b o =>
  have := h.base b hb
  simp [World.sameAt, World.cell?, this]
 | map b =>
  have := h.base b hb
  simp [World.sameAt, this]
theorem var_of_sat {W W' : World} {L : List HProp} {n : String} {cs : Array Value} (h : Sat W W' L) (hv : W.var? Tryz.prog n = some cs) : W'.var? Tryz.prog n = some cs := by
 unfold World.var? at hv ⊢
 cases hg : Tryz.prog.globalNamed n with
 | none => rw [hg] at hv; cases hv
 | some g =>
  rw [hg] at hv
  simp only [Option.bind_some] at hv ⊢
  have hlt : g < W.heap.size := by
   rcases Nat.lt_or_ge g W.heap.size with h1 | h1
   ·
    exact h1
   rw [Array.getElem?_eq_none h1] at hv; cases hv
  rw [h.base g hlt]
  exact hv
theorem laidOut : laidOutB Tryz.prog = true := by kernel_rfl
theorem read106 : Tryz.prog.readableRec 106 = true := by kernel_rfl
theorem row106 : 106 < Tryz.prog.types.size := of_decide_eq_true (by kernel_rfl)
theorem sl106 : Tryz.prog.slicesRec 106 = false := by kernel_rfl
theorem if106 : Tryz.prog.ifacesRec 106 = false := by kernel_rfl
theorem ve106 : Tryz.prog.veiledRec 106 = false := by kernel_rfl
theorem contract_of {f : FuncId} {fn : Func} {s : ChangeSpec} (hp : fn.params = #[22]) (hr : fn.resultTypes = #[4]) (hv : s.vars = ["loop.example/pub-inflation/pub/inflate.codeOrder"])
 (hs : ∀ (H : Type) (d g1 : DataW H), s.fn H [d, g1] = { results := [.lit (.bool true)], args := [d], vars := [g1] })
 (walk : ∀ (W : World) (v : Value), CodeOf W v → laidMetH Tryz.prog Rows.fnExactStoredRow.laid W → CallsR Tryz.prog f #[v] W (fun r w' => r = .bool true ∧ Sat W w' []))
 {H : Type} {enc : TypeId × Value → H} {W : World} {base : Nat} {args : Array Value} {ds gs : List (DataW H)} {before : List MemPlace} {fresh handsOn again : Bool}
 (hval : ∀ (j : Nat) t v, fn.params[j]? = some t → args[j]? = some v → Value.okWide Tryz.prog W .any base t v)
 (hW : DataW.Whole enc Tryz.prog fn.params.toList s.vars false W args.toList ds gs before) (hL : laidMetH Tryz.prog Rows.fnExactStoredRow.laid W) :
 Calls Tryz.prog f args W fun e W' => ∃ v, e = .returned v ∧ s.post enc Tryz.prog fn false fresh handsOn again W args v W' := by
 have hW' := hW
 obtain ⟨p, q, hA0, hV, rfl, hfz, hnd⟩ := hW
 have hA : DataW.TrodAll enc Tryz.prog W 0 (fun _ => true) true fn.params.toList args.toList ds p := hA0
 rw [hp] at hA hval
 obtain ⟨v0, vs0, d0, ds0, p0, q0, hargs, rfl, rfl, h0, r0⟩ := trodAll_cons hA
 obtain ⟨rfl, rfl, rfl⟩ := trodAll_nil r0
 obtain rfl : args = #[v0] := by cases args; simp_all
 rw [hv] at hV
 obtain ⟨g, t, cs, fuel, d1, pv, rfl, hg, ht, hvar, hd1, rfl⟩ := trodVars_one hV
 obtain rfl := Option.some.inj (gOrd.symm.trans hg)
 obtain rfl := Option.some.inj (gOrdt.symm.trans ht)
 obtain ⟨hc, hre⟩ := code_of_arg (hval 0 22 v0 rfl rfl) h0
 have hlt := hW'.lt
 refine Calls.mono (walk W v0 hc hL) fun e W' he => ?_
 cases e with
 | returned r =>
  obtain ⟨rfl, hS⟩ := he
  have e1 : s.fn H ([d0] ++ [d1]) = { results := [.lit (.bool true)], args := [d0], vars := [d1] } := hs H d0 d1
  refine ⟨_, rfl, post_of_same (pa := p0 ++ []) (pv := MemPlace.row ⟨3, 0, none⟩ cs.size ++ pv) hW' ?_ ?_ ?_ rfl (hS.grown.frame _) hS.grown.2.1 ?_⟩
  ·
   intro b sp hd
   rw [e1, hr]
   exact trodAll_cons_mk (shut_bool Tryz.underlying4 _) trodAll_mk0
  ·
   intro sp hsp
   rw [e1, hp]
   refine trodAll_cons_mk (hre W' sp (fun x hx => same_of_sat hS (hlt x ?_)) (fun x hx => hsp x ?_)) trodAll_mk0
   ·
    simp [hx]
   simp [hx]
  ·
   intro sp hsp
   rw [e1, hv]
   exact trodVars_mk1 gOrd gOrdt (var_of_sat hS hvar) (trod_any laidOut read106 row106 sl106 if106 hd1 (fun x hx => same_of_sat hS (hlt x (by simp [show x ∈ pv from hx]))) ve106)
  exact ok_one (f := fn) hr (by first | rfl | (rw [hr]; rfl)) (okWide_bool_mk Tryz.underlying4 _)
 | _ => exact he.elim
end Go.Proofs.YtkpadembffdepaaGreatDoor
namespace Go.Proofs.YtkpadembffdepaaGreatDoor
open Go Go.ChangeShapes Go.WideShapes Go.ChangeAt Go.RowKit Go.Eng
noncomputable def laidWorld (os : Os) : World :=
 let w0 := World.holding Tryz.prog os ⟨#[], #[], []⟩
 { w0 with heap := (((((((w0.heap.modify 0 fun
  | .cells _ t frozen => .cells #[.iface 187 (.pointer (some ⟨12, 0, none⟩))] t frozen
  | o => o).modify 1 fun
  | .cells _ t frozen => .cells #[.iface 187 (.pointer (some ⟨13, 0, none⟩))] t frozen
  | o => o).modify 2 fun
  | .cells _ t frozen => .cells #[.iface 170 (.agg #[.pointer (some ⟨7, 82, none⟩)])] t frozen
  | o => o).modify 3 fun
  | .cells _ t frozen => .cells #[.int .i64 16, .int .i64 17, .int .i64 18, .int .i64 0, .int .i64 8, .int .i64 7, .int .i64 9, .int .i64 6, .int .i64 10, .int .i64 5, .int .i64 11, .int .i64 4, .int .i64 12, .int .i64 3, .int .i64 13, .int .i64 2, .int .i64 14, .int .i64 1, .int .i64 15] t frozen
  | o => o).modify 4 fun
  | .cells _ t frozen => .cells #[.iface 187 (.pointer (some ⟨14, 0, none⟩))] t frozen
  | o => o).push (.cells #[.string ⟨#[69, 79, 70]⟩] 207 (0, 0))).push (.cells #[.string ⟨#[117, 110, 101, 120, 112, 101, 99, 116, 101, 100, 32, 69, 79, 70]⟩] 207 (0, 0))).push (.cells #[.string ⟨#[115, 104, 111, 114, 116, 32, 98, 117, 102, 102, 101, 114]⟩] 207 (0, 0)) }
theorem laid_met (os : Os) : laidMetH Tryz.prog Rows.fnExactStoredRow.laid ((laidWorld os).forCall (fun _ _ => 0) ⟨#[], #[.slice none 0 0], []⟩).memory :=
 laidMetH_of_parts (laidMet_of_run' 8 (by kernel_rfl) (by kernel_rfl)) (by kernel_rfl)
theorem wit_vars (os : Os) : ((laidWorld os).forCall (fun _ _ => 0) ⟨#[], #[.slice none 0 0], []⟩).variablesB Tryz.checked.prog = true := by kernel_rfl
theorem wit_rest (os : Os) : (((laidWorld os).forCall (fun _ _ => 0) ⟨#[], #[.slice none 0 0], []⟩).heap.toList.drop Tryz.checked.prog.globals.size).take ((begin Tryz.checked.prog (fun _ _ => 0) default).world.heap.size - Tryz.checked.prog.globals.size) =
 (begin Tryz.checked.prog (fun _ _ => 0) default).world.heap.toList.drop Tryz.checked.prog.globals.size := by kernel_rfl
theorem reads (os : Os) {H : Type} (enc : TypeId × Value → H) : DataW.whole enc Tryz.prog ((laidWorld os).forCall (fun _ _ => 0) ⟨#[], #[.slice none 0 0], []⟩).memory [22] ["loop.example/pub-inflation/pub/inflate.codeOrder"] false #[Value.slice none 0 0].toList 8 =
 some ([.nil], [Rows.laid_loop_example_pub_inflation_pub_inflate_codeOrder], MemPlace.row ⟨3, 0, none⟩ 19) := by kernel_rfl
end Go.Proofs.YtkpadembffdepaaGreatDoor
