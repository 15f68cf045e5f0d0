/- Parts of the proof of the card: Jm Jl La -/
import Derived.Test.YtkpadembffdepaaGreatDoorK4
import Derived.Test.YtkpadembffdepaaGreatDoorK5
set_option maxRecDepth 100000
set_option maxHeartbeats 4000000
set_option linter.unusedVariables false
set_option linter.unusedSimpArgs false
namespace Go.Eng
open Go Go.Proofs Go.Infl
def slo (v : Value) (xs : List Nat) : HProp := fun m => (v = .slice none 0 0 ∧ xs = []) ∨ ∃ b off c n F, v = .slice (some ⟨b, off, none⟩) xs.length c ∧ off + xs.length ≤ n ∧ blk b n F m ∧ ∀ j x, xs[j]? = some x → F (off + j) = u8 x
theorem Sat.slo {G w : World} {L : List HProp} {v : Value} {xs : List Nat} (h : Sat G w (Eng.slo v xs :: L)) : (v = .slice none 0 0 ∧ xs = []) ∨ ∃ b off c n F, v = .slice (some ⟨b, off, none⟩) xs.length c ∧ off + xs.length ≤ n ∧ (∀ j x, xs[j]? = some x → F (off + j) = u8 x) ∧ Sat G w (Eng.blk b n F :: L) := by
 obtain ⟨m, hA, hm, hL⟩ := h.sat
 rcases hA with ⟨h1, h2⟩ | ⟨b, off, c, n, F, h1, h2, h3, h4⟩
 ·
  exact .inl ⟨h1, h2⟩
 exact .inr ⟨b, off, c, n, F, h1, h2, h4, { h with sat := ⟨m, h3, hm, hL⟩ }⟩
theorem t19n {va : Value} {xs : List Nat} (hl : xs.length < 9223372036854775807) {G : World} {R : List HProp} {w : World} (hS : Sat G w (slc 1 va xs.length (xs.map u8) :: R)) :
 CallsR Tryz.prog 19 #[va, (.slice none 0 0)] w (fun v w' => v = .bool true ∧ Sat G w' (slc 1 va xs.length (xs.map u8) :: R)) := by
 refine calls_in (n := 26) [(0, va), (1, (.slice none 0 0))] Tryz.func19 rfl rfl hS args2 ?_
 refine CT.q (TL.val (r_asg .c) (TL.e (CT.seq (CT.q (TL.m m2 (TL.val (r_len Tryz.underlying22 T0) (TL.m m3 (TL.val (r_lens Tryz.underlying22 T0 m0) (TL.val (n_gtr 0 xs.length T2 T0) (TL.b (.hd .u4) (CT.ifd m0 (fun c10 => ?_) (fun c10 => ?_))))))))))))
 ·
  exfalso; omega
 refine CT.z (EX.seq (CT.seq (CT.q (TL.m m2 (TL.val (r_len Tryz.underlying22 T0) (TL.val (r_move .c) (TL.b (.hd (.hd .u1)) (CT.block (CT.loop (X := Nat) (fun gx => [(13, (i64 gx)), (12, (.int .i64 0)), (0, va), (1, (.slice none 0 0))]) (fun gx => (slc 1 va xs.length (xs.map u8)) :: R) (fun gx => gx ≤ 0) (fun gx => 0 - gx) 0 (Nat.zero_le _) (.refl _) (.cons m0 (.cons m1 (.cons m3 (.cons m4 .nil)))) ?_)))))))))
 rintro k hI
 refine CT.q (TL.val (n_lss k 0 T0 T1) (TL.e (CT.seq (CT.ifd m0 (fun c14 => ?_) (fun c14 => ?_)))))
 ·
  exfalso; omega
 exact CT.sub .u1 (CT.exit (EX.then_exit (EX.then_exit (EX.out (EX.q (TL.val (r_asg .c) (TL.e (CT.ret (EX.end_ (.inl rfl) (res1 Tryz.results19 m0) (fun _ hS => ⟨rfl, hS⟩))))))))))
theorem t19s {va : Value} {xs ys zs : List Nat} (hp : xs = ys ++ zs) (hl : xs.length < 9223372036854775807) (b off c n : Nat) (F : Nat → Value) (hn : off + ys.length ≤ n) (hF : ∀ j x, ys[j]? = some x → F (off + j) = u8 x) {G : World} {R : List HProp} {w : World} (hS : Sat G w (slc 1 va xs.length (xs.map u8) :: blk b n (F) :: R)) :
 CallsR Tryz.prog 19 #[va, (.slice (some ⟨b, off, none⟩) ys.length c)] w (fun v w' => v = .bool true ∧ Sat G w' (slc 1 va xs.length (xs.map u8) :: blk b n F :: R)) := by
 have hlen := congrArg List.length hp
 rw [List.length_append] at hlen
 refine calls_in (n := 26) [(0, va), (1, (.slice (some ⟨b, off, none⟩) ys.length c))] Tryz.func19 rfl rfl hS args2 ?_
 refine CT.q (TL.val (r_asg .c) (TL.e (CT.seq (CT.q (TL.m m2 (TL.val (r_len Tryz.underlying22 T0) (TL.m m3 (TL.val (r_lens Tryz.underlying22 T0 m0) (TL.val (n_gtr ys.length xs.length T2 T0) (TL.b (.hd .u4) (CT.ifd m0 (fun c10 => ?_) (fun c10 => ?_))))))))))))
 ·
  exfalso; omega
 refine CT.z (EX.seq (CT.seq (CT.q (TL.m m2 (TL.val (r_len Tryz.underlying22 T0) (TL.val (r_move .c) (TL.b (.hd (.hd .u1)) (CT.block (CT.loop (X := Nat) (fun gx => [(13, (i64 gx)), (12, (i64 ys.length)), (0, va), (1, (.slice (some ⟨b, off, none⟩) ys.length c))]) (fun gx => (slc 1 va xs.length (xs.map u8)) :: blk b n (F) :: R) (fun gx => gx ≤ ys.length) (fun gx => ys.length - gx) 0 (Nat.zero_le _) (.refl _) (.cons m0 (.cons m1 (.cons m3 (.cons m4 .nil)))) ?_)))))))))
 rintro k hI
 refine CT.q (TL.val (n_lss k ys.length T0 T1) (TL.e (CT.seq (CT.ifd m0 (fun c14 => ?_) (fun c14 => ?_)))))
 ·
  refine CT.z (EX.seq (CT.seq (CT.block (CT.q (TL.m m0 (TL.a m0 (TL.b (.hd .u1) (CT.seq ?_))))))))
  obtain ⟨x1, hx1⟩ : ∃ x1, ys[k]? = some x1 := ⟨_, List.getElem?_eq_getElem c14⟩
  have hx2 : xs[k]? = some x1 := by rw [hp, List.getElem?_append_left c14]; exact hx1
  refine CT.peek m0 (by omega) ?_
  intro d d_c d_v d_k d_l
  refine CT.still fm (by kernel_rfl) ?_
  refine TS.m m3 (TS.m m1 (TS.val (r_ia (i := k) (off' := k) Tryz.underlying22 Tryz.sizeOf5 (.te m1 d_v) T0 rfl (by omega) (by omega)) (TS.val (r_lds (u := (u8 x1)) Tryz.isAgg5 m0 d_v T0 (by rw [List.getElem?_map, hx2]; rfl)) ?_)))
  refine TS.m m8 (TS.m m5 (TS.val (r_ia (i := k) (off' := off + k) Tryz.underlying22 Tryz.sizeOf5 T1 T0 rfl (by omega) (by omega)) (TS.val (r_ld (v := (u8 x1)) Tryz.isAgg5 m1 T0 (by omega) (hF _ _ hx1)) (TS.val (n_neq x1 x1 T4 T0) (TS.nil (TL.b (.hd .u8) (CT.ifd m0 (fun c24 => ?_) (fun c24 => ?_))))))))
  ·
   exfalso; omega
  exact CT.z (EX.bnormal (EX.seq (CT.region (TL.val (n_add k 1 9223372036854775808 T1 .c) (TL.rm .h2 (TL.m m0 (TL.x (.hd .u1) (EX.again (k + 1) (by omega) (by omega) (.refl _) (.eq m0 (by first | rfl | (congr 1 <;> omega)) (.sl 2 3 rfl))))))))))
 exact CT.sub .u1 (CT.exit (EX.then_exit (EX.then_exit (EX.out (EX.q (TL.val (r_asg .c) (TL.e (CT.ret (EX.end_ (.inl rfl) (res1 Tryz.results19 m0) (fun _ hS => ⟨rfl, hS⟩))))))))))
theorem t23n {va : Value} {G : World} {R : List HProp} {w : World} (hS : Sat G w (slc 1 va 0 ([]) :: R)) :
 CallsR Tryz.prog 23 #[va, (.slice none 0 0)] w (fun v w' => v = .bool true ∧ Sat G w' (slc 1 va 0 [] :: R)) := by
 refine calls_in (n := 15) [(0, va), (1, (.slice none 0 0))] Tryz.func23 rfl rfl hS args2 ?_
 refine CT.q (TL.val (r_asg .c) (TL.q (TL.m m1 (TL.val (r_lens Tryz.underlying22 T0 m0) (TL.m m4 (TL.val (r_len Tryz.underlying22 T0) (TL.val (show Run _ _ _ _ _ _ (.bool true) from n_eql 0 0 T2 T0 rfl rfl) (TL.m m0 (TL.gv m0 (r_move T7) (TL.gv m1 (r_move T9) (TL.gcall m2 (r_call ce_19 (.cons T1 (.cons T0 .nil))) (fun w hS => t19n (xs := []) (by decide) hS) ?_)))))))))))
 rintro _ w13 ⟨rfl, hS⟩
 exact TW.at hS (TL.val (r_pickt T3 T0) (TL.rm .h10 (TL.a m0 (TL.b (.hd .u12) (CT.ret (EX.end_ (.inl rfl) (res1 Tryz.results23 m0) (fun _ hS => ⟨rfl, hS⟩)))))))
theorem t23s {va : Value} {xs : List Nat} (hl : xs.length < 9223372036854775807) (b off c n : Nat) (F : Nat → Value) (hn : off + xs.length ≤ n) (hF : ∀ j x, xs[j]? = some x → F (off + j) = u8 x) {G : World} {R : List HProp} {w : World} (hS : Sat G w (slc 1 va xs.length (xs.map u8) :: blk b n (F) :: R)) :
 CallsR Tryz.prog 23 #[va, (.slice (some ⟨b, off, none⟩) xs.length c)] w (fun v w' => v = .bool true ∧ Sat G w' (slc 1 va xs.length (xs.map u8) :: blk b n F :: R)) := by
 refine calls_in (n := 15) [(0, va), (1, (.slice (some ⟨b, off, none⟩) xs.length c))] Tryz.func23 rfl rfl hS args2 ?_
 refine CT.q (TL.val (r_asg .c) (TL.q (TL.m m1 (TL.val (r_lens Tryz.underlying22 T0 m0) (TL.m m4 (TL.val (r_len Tryz.underlying22 T0) (TL.val (n_eql xs.length xs.length T2 T0) (TL.m m0 ?_))))))))
 by_cases g10 : xs.length = xs.length
 ·
  refine TL.sub (.eq m0 (congrArg Value.bool (decide_eq_true g10)) (.eq m1 (congrArg Value.bool (decide_eq_true g10)) (.cons m2 (.cons m3 (.cons m4 (.cons m5 (.cons m6 (.cons m7 (.cons m8 .nil))))))))) (TL.gv m0 (r_move T7) (TL.gv m1 (r_move T9) (TL.perm p1 (TL.perm p1 (TL.gcall m2 (r_call ce_19 (.cons T1 (.cons T0 .nil))) (fun w hS => t19s (ys := xs) (zs := []) (by simp) (by omega) b off c n F hn hF hS) ?_)))))
  rintro _ w13 ⟨rfl, hS⟩
  exact TW.at hS (TL.val (r_pickt T3 T0) (TL.rm .h10 (TL.a m0 (TL.b (.hd .u12) (CT.ret (EX.end_ (.inl rfl) (res1 Tryz.results23 m0) (fun _ hS => ⟨rfl, hS⟩)))))))
 exfalso; omega
theorem t23o {G w : World} {R : List HProp} {va vb : Value} {xs : List Nat} (hl : xs.length < 9223372036854775807) (hS : Sat G w (slc 1 va xs.length (xs.map u8) :: slo vb xs :: R)) :
 CallsR Tryz.prog 23 #[va, vb] w (fun v w' => v = .bool true ∧ Sat G w' (slc 1 va xs.length (xs.map u8) :: slo vb xs :: R)) := by
 rcases (hS.perm (List.Perm.swap _ _ _)).slo with ⟨rfl, rfl⟩ | ⟨b, off, c, n, F, rfl, hn, hF, hS2⟩
 ·
  exact t23n hS
 refine (t23s hl b off c n F hn hF (hS2.perm (List.Perm.swap _ _ _))).mono fun v w' h => ⟨h.1, ?_⟩
 exact ((h.2.perm (List.Perm.swap _ _ _)).imp fun m hm => .inr ⟨b, off, c, n, F, rfl, hn, hm, hF⟩).perm (List.Perm.swap _ _ _)
end Go.Eng
namespace Go.Eng
open Go Go.Proofs Go.Infl
theorem gives_ext : ∀ (l : List It) (h : List Nat), ∃ x, gives h l = h ++ x
 | [], h => ⟨[], (List.append_nil _).symm⟩
 | .lit b :: r, h => let ⟨x, e⟩ := gives_ext r (h ++ [b]); ⟨[b] ++ x, by rw [gives, e, List.append_assoc]⟩
 | .mat n d :: r, h => let ⟨x, e⟩ := gives_ext r (copyM h d n); ⟨xsM h d n ++ x, by rw [gives, e, copyM_split, List.append_assoc]⟩
theorem infl_ext {pos : Nat} {fin : Bool} {h h' : List Nat} {b : List Bool} (H : IsBlk pos fin h b h') : ∃ x, h' = h ++ x := by
 cases H with
 | stored => exact ⟨_, rfl⟩
 | huff => exact gives_ext _ _
theorem blk_lift (a : List Nat) {pos : Nat} {fin : Bool} {h h' : List Nat} {b : List Bool} (H : IsBlk pos fin h b h') : IsBlk pos fin (a ++ h) b (a ++ h') := by
 cases H with
 | stored h1 h2 h3 h4 => rw [← List.append_assoc]; exact .stored h1 h2 h3 h4
 | huff h1 h2 h3 => rw [← gives_pre a h2]; exact .huff h1 (ItOk.mono h2 (by rw [List.length_append]; omega)) h3
theorem blks_lift (a : List Nat) {pos : Nat} {h h' : List Nat} {b : List Bool} (H : Blks pos b h h') : Blks pos b (a ++ h) (a ++ h') := by
 induction H with
 | nil => exact .nil
 | cons h1 _ ih => exact .cons (blk_lift a h1) ih
theorem strm_lift (a : List Nat) {pos : Nat} {h h' : List Nat} {b : List Bool} (H : Strm pos b h (h', true)) : Strm pos b (a ++ h) (a ++ h', true) := by
 obtain ⟨b1, b2, h1, e, hb, ⟨-, h2⟩ | ⟨h3, -⟩⟩ := H
 ·
  exact ⟨b1, b2, a ++ h1, e, blks_lift a hb, .inl ⟨rfl, blk_lift a h2⟩⟩
 cases h3
theorem dict_lift {D o : List Nat} {b : List Bool} {k : Nat} (H : Strm 0 b (D.drop k) (D.drop k ++ o, true)) : Strm 0 b D (D ++ o, true) := by
 have := strm_lift (D.take k) H
 rw [← List.append_assoc, List.take_append_drop] at this
 exact this
theorem dict_two {D h1 h2 : List Nat} {d1 d2 : List Bool} (H1 : IsBlk ([] : List Bool).length false D d1 h1) (H2 : IsBlk (d1 : List Bool).length true h1 d2 h2) : ∃ o, h2 = D ++ o ∧ Strm 0 (d1 ++ d2) D (D ++ o, true) := by
 obtain ⟨x, rfl⟩ := infl_ext H1
 obtain ⟨y, rfl⟩ := infl_ext H2
 refine ⟨x ++ y, List.append_assoc _ _ _, d1, d2, D ++ x, rfl, ?_, .inl ⟨rfl, ?_⟩⟩
 ·
  have := Blks.snoc (pos := 0) (bs := []) .nil (by rw [Nat.zero_add]; exact H1)
  exact this
 rw [Nat.zero_add, ← List.append_assoc]; exact H2
theorem blkC_y {y : Nat} (hy : y < 2) : BlkC (1 + y) 30 (258 * 30) := by
 have : y = 0 ∨ y = 1 := by omega
 rcases this with rfl | rfl
 ·
  show BlkC 1 30 (258 * 30)
  exact blkC_1 (by decide)
 show BlkC 2 30 (258 * 30)
 exact blkC_2 (by decide)
theorem CT.slcC {P : Program} {Q : Exit → Act → World → Prop} {ρ : Env} {n : Nat} {G : World} {L : List HProp} {c : Code} {v : Value} {k : Nat} {cs : List Value}
 (k1 : v = .slice none 0 0 → k = 0 → cs = [] → CT P c Q ρ n G (slc 1 v k cs :: L))
 (k2 : ∀ b cp F, v = .slice (some ⟨b, 0, none⟩) k cp → k ≤ cp → (∀ j x, cs[j]? = some x → F j = x) → CT P c Q ρ n G (blk b cp F :: L)) : CT P c Q ρ n G (slc 1 v k cs :: L) := fun w a hS ha => by
 obtain ⟨hl, ⟨h1, h2, h3⟩ | ⟨b, cp, F, h1, h2, h3, h4⟩⟩ := hS.slc
 ·
  exact k1 h1 h2 h3 w a hS ha
 rw [Nat.mul_one] at h3
 exact k2 b cp F h1 h2 h4 w a h3 ha
theorem slo_nil {G w : World} {L : List HProp} {k : Nat} {cs : List Value} {o : List Nat} (h0 : o = []) (h : Sat G w (slc 1 (.slice none 0 0) k cs :: L)) : Sat G w (slo (.slice none 0 0) o :: L) := h.imp fun _ _ => .inl ⟨rfl, h0⟩
theorem slo_of {G w : World} {L : List HProp} {b n c k l of : Nat} {F : Nat → Value} {D o : List Nat} (hk : k = D.length + o.length) (hc : k ≤ n) (hl : l = o.length) (hof : of = if n = D.length then 0 else D.length) (hF : ∀ j x, ((D ++ o).map u8)[j]? = some x → F j = x) (h : Sat G w (blk b n F :: L)) : Sat G w (slo (.slice (some ⟨b, of, none⟩) l c) o :: L) := by
 subst hl
 refine h.imp fun m hm => .inr ⟨b, of, c, n, F, rfl, ?_, hm, fun j x hx => ?_⟩
 ·
  rw [hof]; split <;> omega
 have hj : j < o.length := (List.getElem?_eq_some_iff.1 hx).1
 rw [if_neg (by omega)] at hof
 rw [hof]
 exact hF _ _ (by rw [List.getElem?_map, List.getElem?_append_right (by omega), Nat.add_sub_cancel_left, hx]; rfl)
theorem zero_done {n b : Nat} : ∀ m, Eng.blk b n (fun _ => .int .u8 0) m → Eng.slc 1 (.slice (some ⟨b, 0, none⟩) n n) (List.replicate n 0).length ((List.replicate n 0).map u8) m := fun m h =>
 slc_eq (k := n) List.length_replicate.symm rfl m (mk_slc1 (by rw [List.length_map, List.length_replicate]) (Nat.le_refl _) (fun j x hj => by
  rw [List.getElem?_map, List.getElem?_replicate] at hj
  split at hj
  ·
   exact Option.some.inj hj
  cases hj) m h)
theorem t20 {G : World} (cv : Value) (hc : CodeOf G cv) {R : List HProp} {w : World} (hS : Sat G w (R)) :
 CallsR Tryz.prog 20 #[cv] w (fun v w' => ∃ (v1 v2 v3 : Value) (bits : List Bool) (D o : List Nat), v = .tuple #[v1, v2, v3] ∧ Strm 0 bits (D.drop (D.length - 32768)) (D.drop (D.length - 32768) ++ o, true) ∧ o.length ≤ 131072 ∧ D.length ≤ 65536 ∧ bits.length ≤ 8589934592 ∧ Sat G w' (slc 1 v1 D.length (D.map u8) :: slc 1 v2 (pack bits).length ((pack bits).map u8) :: slo v3 o :: R)) := by
 refine calls_in (n := 59) [(0, cv)] Tryz.func20 rfl rfl hS args1 ?_
 refine CT.q (TL.val (r_asg .c) (TL.val (r_asg .c) (TL.val (r_asg .c) (TL.q (TL.m m3 (TL.call (r_call ce_35 (.cons T0 .nil)) (fun w hS => t35 _ hc hS) ?_))))))
 rintro _ w11 ⟨b11, rfl, hS⟩
 refine TW.at hS (TL.a m0 (TL.r (.hd (.tl (.tl (.hd (.hd (.hd .u1)))))) (TL.m m0 (TL.call (r_call ce_44 (.cons T0 (.cons .c .nil))) (fun w hS => t44 b11 60 0 (by omega) (by omega) hS) ?_))))
 rintro v13 w13 ⟨xs13, xs13_l, xs13_b, hS⟩
 refine TW.at hS (TL.a m0 (TL.b (.hd .u2) (CT.cut (X := Value × List Nat) (fun gx => [(6, gx.1), (5, (pt b11 0)), (4, (.slice none 0 0)), (3, (.slice none 0 0)), (2, (.slice none 0 0))]) (fun gx => (slc 1 gx.1 ((gx.2).length) ((gx.2).map u8)) :: Rdr G b11 1000 :: R) (fun gx => (gx.2).length ≤ 40000) ?_ ?_)))
 ·
  refine CT.q (TL.m m1 (TL.perm p1 (TL.call (r_call ce_39 (.cons T0 (.cons .c .nil))) (fun w hS => t39 b11 6 (0 + 1 + 2 * 60) (by omega) (by omega) hS) ?_)))
  rintro _ w15 ⟨y15, rfl, y15_l, hS⟩
  refine TW.at hS (TL.val (n_eql y15 0 T0 .c) (TL.b (.hd .u2) (CT.ifd m0 (fun c16 => ?_) (fun c16 => ?_))))
  ·
   refine CT.sub .u1 (CT.region (TL.m m1 (TL.w (r_buildSlice (k := 3) (e := 3) (cs := #[(.int .i64 32760), (.int .i64 32768), (.int .i64 33000)]) (F := lst [(.int .i64 32760), (.int .i64 32768), (.int .i64 33000)]) (.cons .c (.cons .c (.cons .c .nil))) (fun _ => by kernel_rfl) rfl lst_ok) ?_)))
   rintro _ w18 ⟨b18, rfl, hS⟩
   refine TW.at hS (TL.perm p1 (TL.perm p1 (TL.call (r_call ce_45 (.cons T1 (.cons T0 .nil))) (fun w hS => t45 b11 b18 [32760, 32768, 33000] (0 + 1 + 2 * 60 + 1) (Nat.zero_lt_succ _) (by show _ < _; simp) (by omega) hS) ?_)))
   rintro _ w19 ⟨y19, rfl, y19_m, hS⟩
   refine TW.at hS ?_
   simp only [List.mem_cons, List.not_mem_nil, or_false] at y19_m
   have hy19 : 32760 ≤ y19 ∧ y19 ≤ 33000 := by omega
   refine TL.w (r_make (l := y19) (c := y19) Tryz.underlying22 Tryz.sizeOf5 ⟨_, Tryz.typeInfo5, rfl⟩ Tryz.zeroValue5 rfl T0 T0 rfl rfl (by omega) (by exact Nat.le_trans (Nat.mul_le_mul_right _ hy19.2) (Nat.le_of_ble_eq_true rfl)) (by omega)) ?_
   rintro _ w20 ⟨b20, rfl, hS⟩
   refine TW.at hS (TL.m m4 (TL.fold (A' := (slc 1 (.slice (some ⟨b20, 0, none⟩) y19 y19) ((List.replicate y19 0).length) ((List.replicate y19 0).map u8))) a0 zero_done ?_))
   refine TL.w (r_appends (j := xs13.length) (k := (List.replicate y19 0).length) (ds := xs13.map u8) el_22 Tryz.underlying22 T1 T0 m2 (ones_map one_u8) (by first | (rw [List.length_replicate]; omega) | omega) (by first | (rw [List.length_replicate]; omega) | omega)) ?_
   rintro v22 w22 hS
   have ho22 := hS.slc_one
   refine TW.at hS (TL.fold (A' := (slc 1 v22 ((List.replicate y19 0 ++ xs13).length) ((List.replicate y19 0 ++ xs13).map u8))) a0 (slc_eq (by rw [List.length_append]) (List.map_append.symm)) ?_)
   refine TL.rm .h6 (TL.a m0 (TL.x (.hd .u6) (EX.fold (A' := (Rdr G b11 1000)) a1 (Rdr_mono (by omega)) (EX.perm p2 (EX.conv (fun _ h => h.tail) ?_)))))
   exact EX.meet ((v22, List.replicate y19 0 ++ xs13)) (by show (List.replicate y19 0 ++ xs13).length ≤ 40000; rw [List.length_append, List.length_replicate]; omega) (.refl _) (.sl 0 5 rfl)
  exact CT.z (EX.fold (A' := (Rdr G b11 1000)) a0 (Rdr_mono (by omega)) (EX.perm p1 (EX.meet ((v13, xs13)) (by show xs13.length ≤ 40000; omega) (.refl _) (.sl 0 5 rfl))))
 rintro ⟨vd, D⟩ hD
 show CT _ _ _ [(6, vd), (5, (pt b11 0)), (4, (.slice none 0 0)), (3, (.slice none 0 0)), (2, (.slice none 0 0))] _ _ (slc 1 vd ((D).length) ((D).map u8) :: Rdr G b11 1000 :: R)
 replace hD : D.length ≤ 40000 := hD
 obtain ⟨be, hbe⟩ : ∃ be, be = D.length - 32768 := ⟨_, rfl⟩
 refine CT.q (TL.val (r_build (v := (.agg #[(.slice none 0 0), (.int .i64 0)])) .nil (fun _ => by kernel_rfl)) (TL.w (r_box (F := lst [(.slice none 0 0), (.int .i64 0)]) T0 rfl rfl lst_ok) ?_))
 rintro _ w24 ⟨b24, rfl, hS⟩
 refine TW.at hS (TL.a m0 (TL.b (.hd .u2) (CT.seq (CT.conv (fun _ h => h.newWr) ?_))))
 refine CT.region (TL.m m1 (TL.val (r_lens Tryz.underlying22 T0 m1) (TL.val (n_min ((D).length) 32768 T0 .c rfl rfl) (TL.a m0 (TL.r (.hd .u3) (TL.w (r_buildSlice (k := 0) (e := 5) (cs := #[]) (F := lst []) .nil (fun _ => by kernel_rfl) rfl lst_ok) ?_))))))
 rintro _ w28 ⟨b28, rfl, hS⟩
 refine TW.at hS (TL.m m3 (TL.fold (A' := (slc 1 (.slice (some ⟨b28, 0, none⟩) 0 0) 0 ([]))) a0 (mk_slc1 rfl (by decide) (by intro j x h; cases h)) ?_))
 refine TL.w (r_appends (j := (D).length) (k := 0) (ds := (D).map u8) el_22 Tryz.underlying22 T1 T0 m2 (ones_map one_u8) (by omega) (by omega)) ?_
 rintro v30 w30 hS
 have ho30 := hS.slc_one
 refine TW.at hS (TL.fold (A' := (slc 1 v30 (D.length) (D.map u8))) a0 (slc_eq (Nat.zero_add _) (List.nil_append _)) ?_)
 refine TL.a m0 (TL.r (.hd .u3) (TL.m m4 (TL.m m3 (TL.m m2 (TL.m m4 (TL.m m7 (TL.val (r_lens Tryz.underlying22 T0 m2) (TL.val (r_sub (z := (-((be : Nat) : Int))) T2 T0 (wi (by omega))) (TL.m m11 (TL.perm p3 (TL.call (r_call ce_39 (.cons T0 (.cons .c .nil))) (fun w hS => t39 b11 2 1000 (by omega) (by omega) hS) ?_)))))))))))
 rintro _ w39 ⟨y39, rfl, y39_l, hS⟩
 refine TW.at hS (TL.val (n_add 1 y39 9223372036854775808 .c T0) (TL.perm p2 (TL.perm p2 (TL.call (r_call ce_46 (.cons T9 (.cons T8 (.cons T7 (.cons T3 (.cons T0 (.cons .c (.cons .c .nil)))))))) (fun w hS => (blkC_y y39_l) b11 b24 (1000 + 1) v30 (D) (([] : List Bool)) false be (by omega) (by omega) (by first | decide | omega) (by omega) hS) ?_))))
 rintro v41 w41 ⟨h41, d41, h41_b, h41_l, d41_l, hS⟩
 replace h41_b : IsBlk (([] : List Bool)).length false (D.drop be) d41 h41 := h41_b
 replace h41_l : h41.length ≤ (D.drop be).length + 258 * 30 := h41_l
 replace hS : Sat G w41 (slc 1 v41 ((D.take be ++ h41).length) ((D.take be ++ h41).map u8) :: Wr b24 (([] : List Bool) ++ d41) :: Rdr G b11 (1000 + 1 + 1073741824) :: slc 1 vd ((D).length) ((D).map u8) :: R) := hS
 refine TW.at hS ?_
 rw [List.length_drop] at h41_l
 have htl : (D.take be).length = be := by rw [List.length_take]; omega
 have hdr : (D.take be ++ h41).drop be = h41 := List.drop_left' htl
 have htk : (D.take be ++ h41).take be = D.take be := List.take_left' htl
 have hxl : (D.take be ++ h41).length = be + h41.length := by rw [List.length_append, htl]
 obtain ⟨X, hX⟩ : ∃ X, X = D.take be ++ h41 := ⟨_, rfl⟩
 rw [← hX] at hdr htk hxl
 refine TL.fold (A' := (slc 1 v41 (X.length) (X.map u8))) a0 (slc_eq (by rw [hX]) (by rw [hX])) ?_
 refine TL.rm .h11 (TL.a m0 (TL.r (.hd .u11) (TL.m m4 (TL.m m3 (TL.m m2 (TL.m m4 (TL.m m7 (TL.val (r_lens Tryz.underlying22 T0 m3) (TL.val (r_sub (z := (-((be : Nat) : Int))) T2 T0 (wi (by omega))) (TL.perm p2 (TL.perm p2 (TL.perm p2 (TL.call (r_call ce_46 (.cons T6 (.cons T5 (.cons T4 (.cons T0 (.cons .c (.cons .c (.cons .c .nil)))))))) (fun w hS => (blkC_3 (most := 30) (by decide)) b11 b24 (1000 + 1 + 1073741824) v41 (X) (([] : List Bool) ++ d41) true be (by omega) (by omega) (by simp only [List.nil_append]; omega) (by omega) hS) ?_)))))))))))))
 rintro v49 w49 ⟨h49, d49, h49_b, h49_l, d49_l, hS⟩
 replace h49_b : IsBlk (([] : List Bool) ++ d41).length true (X.drop be) d49 h49 := h49_b
 replace h49_l : h49.length ≤ (X.drop be).length + 258 * 30 := h49_l
 replace hS : Sat G w49 (slc 1 v49 ((X.take be ++ h49).length) ((X.take be ++ h49).map u8) :: Wr b24 (([] : List Bool) ++ d41 ++ d49) :: Rdr G b11 (1000 + 1 + 1073741824 + 1073741824) :: slc 1 vd ((D).length) ((D).map u8) :: R) := hS
 refine TW.at hS ?_
 rw [hdr] at h49_b h49_l
 obtain ⟨o, ho, hst⟩ := dict_two h41_b h49_b
 have hDo : X.take be ++ h49 = D ++ o := by rw [htk, ho, ← List.append_assoc, List.take_append_drop]
 have hol := congrArg List.length ho
 rw [List.length_append, List.length_drop] at hol
 have hdol : (D ++ o).length = D.length + o.length := List.length_append
 refine TL.fold (A' := (slc 1 v49 ((D ++ o).length) ((D ++ o).map u8))) a0 (slc_eq (by rw [hDo]) (by rw [hDo])) ?_
 refine TL.rm .h8 (TL.a m0 (TL.b (.hd .u8) (CT.seq (CT.fold (A' := (Wr b24 (d41 ++ d49))) a1 (Wr_eq (by simp only [List.nil_append])) (CT.perm p1 (CT.wr ?_))))))
 intro vs
 refine CT.perm p2 (CT.slcC (fun e1 e2 e3 => ?_) (fun b49 c49 F49 e1 e2 hF => ?_))
 ·
  subst e1
  have hD0 : D.length = 0 := by omega
  have ho0 : o = [] := List.length_eq_zero_iff.1 (by omega)
  refine CT.still fm (by kernel_rfl) ?_
  refine TS.m m3 (TS.m m3 (TS.c m0 (TS.f 0 fo_39_0 m0 (TS.val (r_ld (v := vs) Tryz.isAgg22 m1 T0 (by decide) rfl) (TS.m m5 (TS.m m9 (TS.val (r_lens Tryz.underlying22 T0 m4) (TS.val (r_slicen Tryz.underlying22 Tryz.sizeOf5 T2 (.so (j := (D).length) T0 rfl) .no hD0 rfl) (TS.rm .h16 (TS.val (r_asg T8) (TS.rm .h16 (TS.val (r_asg T5) (TS.rm .h16 (TS.val (r_asg T2) (TS.nil (TL.b (.hd (.hd (.hd .u9))) (CT.ret (EX.perm p2 (EX.perm p4 (EX.perm p2 (EX.perm p3 (EX.conv (fun _ h => h.tail) ?_))))))))))))))))))))))
  refine EX.perm p3 (EX.conv (fun _ h => h.tail) ?_)
  exact EX.perm p2 (EX.perm p2 (EX.perm p2 (EX.end_ (.inl rfl) (res3 Tryz.results20 m2 m1 m0) (fun _ hS => ⟨vd, vs, (.slice none 0 0), d41 ++ d49, D, o, rfl, (by rw [← hbe]; exact hst), by omega, by omega, by rw [List.length_append]; omega, ((slo_nil ho0 hS).perm p2).perm p2⟩))))
 subst e1
 obtain ⟨of, hof⟩ : ∃ of : Nat, of = if c49 = D.length then 0 else D.length := ⟨_, rfl⟩
 refine CT.still fm (by kernel_rfl) ?_
 refine TS.m m3 (TS.m m3 (TS.c m0 (TS.f 0 fo_39_0 m0 (TS.val (r_ld (v := vs) Tryz.isAgg22 m1 T0 (by decide) rfl) (TS.m m5 (TS.m m9 (TS.val (r_lens Tryz.underlying22 T0 m4) (TS.val (r_slice (off' := of) (m := (D ++ o).length - (D).length) (c' := c49 - (D).length) Tryz.underlying22 Tryz.sizeOf5 T2 (.so (j := (D).length) T0 rfl) .no (show D.length ≤ (D ++ o).length by omega) (show (D ++ o).length ≤ c49 from e2) (by rw [hof]; show (if c49 = D.length then 0 else 0 + D.length * 1) = _; rw [Nat.zero_add, Nat.mul_one]) rfl rfl) (TS.rm .h16 (TS.val (r_asg T8) (TS.rm .h16 (TS.val (r_asg T5) (TS.rm .h16 (TS.val (r_asg T2) (TS.nil (TL.b (.hd (.hd (.hd .u9))) (CT.ret (EX.perm p2 (EX.perm p4 (EX.perm p2 (EX.perm p3 (EX.conv (fun _ h => h.tail) ?_))))))))))))))))))))))
 refine EX.perm p3 (EX.conv (fun _ h => h.tail) ?_)
 exact EX.perm p2 (EX.perm p2 (EX.perm p2 (EX.end_ (.inl rfl) (res3 Tryz.results20 m2 m1 m0) (fun _ hS => ⟨vd, vs, (.slice (some ⟨b49, of, none⟩) ((D ++ o).length - (D).length) (c49 - (D).length)), d41 ++ d49, D, o, rfl, (by rw [← hbe]; exact hst), by omega, by omega, by rw [List.length_append]; omega, ((slo_of (show _ = D.length + o.length from hdol) e2 (by omega) hof hF hS).perm p2).perm p2⟩))))
end Go.Eng
namespace Go.Eng
open Go Go.Proofs Go.Infl
theorem exw1 {p : Program} {f : FuncId} {a : Array Value} {w : World} {P : World → Prop} (h : CallsR p f a w (fun v w' => ∃ (c : Nat), v = i64 c ∧ (false = true ∧ c = 1 ∨ false = false ∧ c = 2) ∧ P w')) :
 CallsR p f a w (fun v w' => v = i64 2 ∧ P w') := by
 refine CallsR.mono h ?_
 rintro v w' ⟨c, e, hc, hS⟩
 rcases hc with ⟨h, _⟩ | ⟨_, rfl⟩
 ·
  cases h
 exact ⟨e, hS⟩
theorem exw2 {p : Program} {f : FuncId} {a : Array Value} {w : World} {P : Value → World → Prop} (h : CallsR p f a w (fun v w' => ∃ (v1 : Value) (c : Nat), v = .tuple #[v1, i64 c] ∧ (false = true ∧ c = 1 ∨ false = false ∧ c = 3) ∧ P v1 w')) :
 CallsR p f a w (fun v w' => ∃ (v1 : Value), v = .tuple #[v1, i64 3] ∧ P v1 w') := by
 refine CallsR.mono h ?_
 rintro v w' ⟨v1, c, e, hc, hS⟩
 rcases hc with ⟨h, _⟩ | ⟨_, rfl⟩
 ·
  cases h
 exact ⟨v1, e, hS⟩
theorem exg3 {p : Program} {f : FuncId} {a : Array Value} {w : World} {P : Value → World → Prop} (h : CallsR p f a w (fun v w' => ∃ (v1 : Value) (c u : Nat), v = .tuple #[v1, i64 c, i64 u] ∧ (true = true ∧ c = 1 ∨ true = false ∧ c = 2) ∧ P v1 w')) :
 CallsR p f a w (fun v w' => ∃ (v1 : Value) (u : Nat), v = .tuple #[v1, i64 1, i64 u] ∧ P v1 w') := by
 refine CallsR.mono h ?_
 rintro v w' ⟨v1, c, u, e, hc, hS⟩
 rcases hc with ⟨_, rfl⟩ | ⟨h, _⟩
 ·
  exact ⟨v1, u, e, hS⟩
 cases h
theorem exg2 {p : Program} {f : FuncId} {a : Array Value} {w : World} {P : Value → World → Prop} (h : CallsR p f a w (fun v w' => ∃ (v1 : Value) (c : Nat), v = .tuple #[v1, i64 c] ∧ (true = true ∧ c = 1 ∨ true = false ∧ c = 3) ∧ P v1 w')) :
 CallsR p f a w (fun v w' => ∃ (v1 : Value), v = .tuple #[v1, i64 1] ∧ P v1 w') := by
 refine CallsR.mono h ?_
 rintro v w' ⟨v1, c, e, hc, hS⟩
 rcases hc with ⟨_, rfl⟩ | ⟨h, _⟩
 ·
  exact ⟨v1, e, hS⟩
 cases h
theorem t19 {va vb : Value} {xs ys zs : List Nat} (hp : xs = ys ++ zs) (hl : xs.length < 9223372036854775807) {G : World} {R : List HProp} {w : World} (hS : Sat G w (slc 1 va xs.length (xs.map u8) :: slc 1 vb ys.length (ys.map u8) :: R)) :
 CallsR Tryz.prog 19 #[va, vb] w (fun v w' => v = .bool true ∧ Sat G w' (slc 1 va xs.length (xs.map u8) :: slc 1 vb ys.length (ys.map u8) :: R)) := by
 have hlen := congrArg List.length hp
 rw [List.length_append] at hlen
 refine calls_in (n := 26) [(0, va), (1, vb)] Tryz.func19 rfl rfl hS args2 ?_
 refine CT.q (TL.val (r_asg .c) (TL.e (CT.seq (CT.q (TL.m m2 (TL.val (r_lens Tryz.underlying22 T0 m1) (TL.m m3 (TL.val (r_lens Tryz.underlying22 T0 m0) (TL.val (n_gtr ys.length xs.length T2 T0) (TL.b (.hd .u4) (CT.ifd m0 (fun c10 => ?_) (fun c10 => ?_))))))))))))
 ·
  exfalso; omega
 refine CT.z (EX.seq (CT.seq (CT.q (TL.m m2 (TL.val (r_lens Tryz.underlying22 T0 m1) (TL.val (r_move .c) (TL.b (.hd (.hd .u1)) (CT.block (CT.loop (X := Nat) (fun gx => [(13, (i64 gx)), (12, (i64 ys.length)), (0, va), (1, vb)]) (fun gx => (slc 1 va xs.length (xs.map u8)) :: slc 1 vb ys.length (ys.map u8) :: R) (fun gx => gx ≤ ys.length) (fun gx => ys.length - gx) 0 (Nat.zero_le _) (.refl _) (.cons m0 (.cons m1 (.cons m3 (.cons m4 .nil)))) ?_)))))))))
 rintro k hI
 refine CT.q (TL.val (n_lss k ys.length T0 T1) (TL.e (CT.seq (CT.ifd m0 (fun c14 => ?_) (fun c14 => ?_)))))
 ·
  refine CT.z (EX.seq (CT.seq (CT.block (CT.q (TL.m m0 (TL.a m0 (TL.b (.hd .u1) (CT.seq ?_))))))))
  obtain ⟨x1, hx1⟩ : ∃ x1, ys[k]? = some x1 := ⟨_, List.getElem?_eq_getElem c14⟩
  have hx2 : xs[k]? = some x1 := by rw [hp, List.getElem?_append_left c14]; exact hx1
  refine CT.peek m0 (by omega) ?_
  intro d d_c d_v d_k d_l
  refine CT.peek m1 (by omega) ?_
  intro e e_c e_v e_k e_l
  refine CT.still fm (by kernel_rfl) ?_
  refine TS.m m3 (TS.m m1 (TS.val (r_ia (i := k) (off' := k) Tryz.underlying22 Tryz.sizeOf5 (.te m1 d_v) T0 rfl (by omega) (by omega)) (TS.val (r_lds (u := (u8 x1)) Tryz.isAgg5 m0 d_v T0 (by rw [List.getElem?_map, hx2]; rfl)) ?_)))
  refine TS.m m8 (TS.m m5 (TS.val (r_ia (i := k) (off' := k) Tryz.underlying22 Tryz.sizeOf5 (.te m1 e_v) T0 rfl (by omega) (by omega)) (TS.val (r_lds (u := (u8 x1)) Tryz.isAgg5 m1 e_v T0 (by rw [List.getElem?_map, hx1]; rfl)) ?_)))
  refine TS.val (n_neq x1 x1 T4 T0) (TS.nil (TL.b (.hd .u8) (CT.ifd m0 (fun c24 => ?_) (fun c24 => ?_))))
  ·
   exfalso; omega
  exact CT.z (EX.bnormal (EX.seq (CT.region (TL.val (n_add k 1 9223372036854775808 T1 .c) (TL.rm .h2 (TL.m m0 (TL.x (.hd .u1) (EX.again (k + 1) (by omega) (by omega) (.refl _) (.eq m0 (by first | rfl | (congr 1 <;> omega)) (.sl 2 3 rfl))))))))))
 exact CT.sub .u1 (CT.exit (EX.then_exit (EX.then_exit (EX.out (EX.q (TL.val (r_asg .c) (TL.e (CT.ret (EX.end_ (.inl rfl) (res1 Tryz.results19 m0) (fun _ hS => ⟨rfl, hS⟩))))))))))
theorem t23 {va vb : Value} {xs : List Nat} (hl : xs.length < 9223372036854775807) {G : World} {R : List HProp} {w : World} (hS : Sat G w (slc 1 va xs.length (xs.map u8) :: slc 1 vb xs.length (xs.map u8) :: R)) :
 CallsR Tryz.prog 23 #[va, vb] w (fun v w' => v = .bool true ∧ Sat G w' (slc 1 va xs.length (xs.map u8) :: slc 1 vb xs.length (xs.map u8) :: R)) := by
 refine calls_in (n := 15) [(0, va), (1, vb)] Tryz.func23 rfl rfl hS args2 ?_
 refine CT.q (TL.val (r_asg .c) (TL.q (TL.m m1 (TL.val (r_lens Tryz.underlying22 T0 m0) (TL.m m4 (TL.val (r_lens Tryz.underlying22 T0 m1) (TL.val (n_eql xs.length xs.length T2 T0) (TL.m m0 ?_))))))))
 by_cases g10 : xs.length = xs.length
 ·
  refine TL.sub (.eq m0 (congrArg Value.bool (decide_eq_true g10)) (.eq m1 (congrArg Value.bool (decide_eq_true g10)) (.cons m2 (.cons m3 (.cons m4 (.cons m5 (.cons m6 (.cons m7 (.cons m8 .nil))))))))) (TL.gv m0 (r_move T7) (TL.gv m1 (r_move T9) (TL.perm p1 (TL.perm p1 (TL.gcall m2 (r_call ce_19 (.cons T1 (.cons T0 .nil))) (fun w hS => t19 (ys := xs) (zs := []) (by simp) (by omega) hS) ?_)))))
  rintro _ w13 ⟨rfl, hS⟩
  exact TW.at hS (TL.val (r_pickt T3 T0) (TL.rm .h10 (TL.a m0 (TL.b (.hd .u12) (CT.ret (EX.end_ (.inl rfl) (res1 Tryz.results23 m0) (fun _ hS => ⟨rfl, hS⟩)))))))
 exfalso; omega
theorem t4 {G w : World} {cv : Value} {ea eb : Addr} (hc : CodeOf G cv) (hL : LaidIs G ea eb) (hS : Sat G w []) :
 CallsR Tryz.prog 4 #[cv] w (fun v w' => v = .bool true ∧ Sat G w' []) := by
 have hc0 := hc
 obtain rfl | ⟨b, off, c, xs, rfl, hlc, hxs, hx⟩ := hc0
 ·
  refine calls_in (n := 52) [(0, (.slice none 0 0))] Tryz.func4 rfl rfl hS args1 ?_
  refine CT.q (TL.val (r_asg .c) (TL.e (CT.seq (CT.q (TL.m m1 (TL.val (r_len Tryz.underlying22 T0) (TL.val (show Run _ _ _ _ _ _ (.bool false) from n_gtr 0 2147483647 T0 .c rfl rfl) (TL.b (.hd .u2) (CT.iff_ m0 ?_)))))))))
  refine CT.z (EX.seq (CT.seq (CT.q (TL.m m1 (TL.val (r_len Tryz.underlying22 T0) (TL.val (show Run _ _ _ _ _ _ (.bool false) from n_gtr 0 16777216 T0 .c rfl rfl) (TL.b (.hd .u2) (CT.iff_ m0 ?_))))))))
  refine CT.z (EX.q (TL.m m1 (TL.call (r_call ce_20 (.cons T0 .nil)) (fun w hS => t20 _ hc hS) ?_)))
  rintro _ w19 ⟨v1, v2, v3, bits, D, h, rfl, hst, hhl, hDl, hbl, hS⟩
  refine TW.at hS ?_
  have hst2 := dict_lift hst
  refine TL.m m0 (TL.val (r_ext T0) (TL.val (r_ext T1) (TL.val (r_ext T2) (TL.a m2 (TL.a m2 (TL.a m2 (TL.r (.hd (.hd (.hd .u6))) (TL.m m1 (TL.m m3 (TL.perm p1 (TL.call (r_call ce_21 (.cons T1 (.cons T0 .nil))) (fun w hS => exg3 (t21_d (B := bits) (st0 := bits) (tail0 := []) (outF := h) (D := D) (gd := true) (by omega) (by omega) (List.append_nil _).symm hst (by omega) hS)) ?_)))))))))))
  rintro _ w26 ⟨r1, u, rfl, hS⟩
  refine TW.at hS (TL.m m0 (TL.val (r_ext T0) (TL.val (r_ext T1) (TL.val (r_ext T2) (TL.a m2 (TL.a m2 (TL.a m2 (TL.r (.tl (.hd (.hd .u7))) (TL.m m3 (TL.m m5 (TL.perm p2 (TL.perm p2 (TL.call (r_call ce_22 (.cons T1 (.cons T0 (.cons .c .nil)))) (fun w hS => exg2 (t22 (B := bits) (st := bits) (tail := []) (out := h) (gd := true) (dd := D) (by omega) hL (by omega) (List.append_nil _).symm hst2 (by omega) hS)) ?_)))))))))))))
  rintro _ w33 ⟨o1, rfl, hS⟩
  refine TW.at hS (TL.m m0 (TL.val (r_ext T0) (TL.val (r_ext T1) (TL.a m1 (TL.a m1 (TL.r (.hd (.hd .u6)) (TL.m m2 (TL.val (show Run _ _ _ _ _ _ (.bool true) from n_eql 1 1 T0 .c rfl rfl) (TL.m m0 (TL.gv m0 (r_move T6) (TL.gv m1 (r_move T8) (TL.perm p4 (TL.perm p4 (TL.gcall m2 (r_call ce_23 (.cons T1 (.cons T0 .nil))) (fun w hS => t23o (xs := h) (by omega) hS) ?_))))))))))))))
  rintro _ w41 ⟨rfl, hS⟩
  refine TW.at hS (TL.val (r_pickt T3 T0) (TL.m m0 (TL.gv m0 (r_move T8) (TL.gv m1 (show Run _ _ _ _ _ _ (.bool true) from n_eql 1 1 T0 .c rfl rfl) (TL.val (r_pickt T2 T0) (TL.m m0 (TL.gv m0 (r_move T13) (TL.gv m1 (r_move T17) (TL.perm p1 (TL.perm p2 (TL.gcall m2 (r_call ce_23 (.cons T1 (.cons T0 .nil))) (fun w hS => t23o (xs := h) (by omega) hS) ?_)))))))))))
  rintro _ w50 ⟨rfl, hS⟩
  exact TW.at hS (TL.val (r_pickt T3 T0) (TL.rm .h23 (TL.a m0 (TL.b (.hd .u21) (CT.ret (EX.end_ (.inl rfl) (res1 Tryz.results4 m0) (fun _ hS => ⟨rfl, hS.nil⟩)))))))
 refine calls_in (n := 52) [(0, (.slice (some ⟨b, off, none⟩) xs.length c))] Tryz.func4 rfl rfl hS args1 ?_
 refine CT.q (TL.val (r_asg .c) (TL.e (CT.seq (CT.q (TL.m m1 (TL.val (r_len Tryz.underlying22 T0) (TL.val (n_gtr xs.length 2147483647 T0 .c) (TL.b (.hd .u2) (CT.ifd m0 (fun c13 => ?_) (fun c13 => ?_))))))))))
 ·
  exact CT.y (TL.rm .here (TL.val (r_asg .c) (TL.e (CT.ret (EX.then_ret (EX.end_ (.inl rfl) (res1 Tryz.results4 m0) (fun _ hS => ⟨rfl, hS.nil⟩)))))))
 refine CT.z (EX.seq (CT.seq (CT.q (TL.m m1 (TL.val (r_len Tryz.underlying22 T0) (TL.val (n_gtr xs.length 16777216 T0 .c) (TL.b (.hd .u2) (CT.ifd m0 (fun c16 => ?_) (fun c16 => ?_)))))))))
 ·
  exact CT.y (TL.rm .here (TL.val (r_asg .c) (TL.e (CT.ret (EX.then_ret (EX.end_ (.inl rfl) (res1 Tryz.results4 m0) (fun _ hS => ⟨rfl, hS.nil⟩)))))))
 refine CT.z (EX.q (TL.m m1 (TL.call (r_call ce_20 (.cons T0 .nil)) (fun w hS => t20 _ hc hS) ?_)))
 rintro _ w19 ⟨v1, v2, v3, bits, D, h, rfl, hst, hhl, hDl, hbl, hS⟩
 refine TW.at hS ?_
 have hst2 := dict_lift hst
 refine TL.m m0 (TL.val (r_ext T0) (TL.val (r_ext T1) (TL.val (r_ext T2) (TL.a m2 (TL.a m2 (TL.a m2 (TL.r (.hd (.hd (.hd .u6))) (TL.m m1 (TL.m m3 (TL.perm p1 (TL.call (r_call ce_21 (.cons T1 (.cons T0 .nil))) (fun w hS => exg3 (t21_d (B := bits) (st0 := bits) (tail0 := []) (outF := h) (D := D) (gd := true) (by omega) (by omega) (List.append_nil _).symm hst (by omega) hS)) ?_)))))))))))
 rintro _ w26 ⟨r1, u, rfl, hS⟩
 refine TW.at hS (TL.m m0 (TL.val (r_ext T0) (TL.val (r_ext T1) (TL.val (r_ext T2) (TL.a m2 (TL.a m2 (TL.a m2 (TL.r (.tl (.hd (.hd .u7))) (TL.m m3 (TL.m m5 (TL.perm p2 (TL.perm p2 (TL.call (r_call ce_22 (.cons T1 (.cons T0 (.cons .c .nil)))) (fun w hS => exg2 (t22 (B := bits) (st := bits) (tail := []) (out := h) (gd := true) (dd := D) (by omega) hL (by omega) (List.append_nil _).symm hst2 (by omega) hS)) ?_)))))))))))))
 rintro _ w33 ⟨o1, rfl, hS⟩
 refine TW.at hS (TL.m m0 (TL.val (r_ext T0) (TL.val (r_ext T1) (TL.a m1 (TL.a m1 (TL.r (.hd (.hd .u6)) (TL.m m2 (TL.val (show Run _ _ _ _ _ _ (.bool true) from n_eql 1 1 T0 .c rfl rfl) (TL.m m0 (TL.gv m0 (r_move T6) (TL.gv m1 (r_move T8) (TL.perm p4 (TL.perm p4 (TL.gcall m2 (r_call ce_23 (.cons T1 (.cons T0 .nil))) (fun w hS => t23o (xs := h) (by omega) hS) ?_))))))))))))))
 rintro _ w41 ⟨rfl, hS⟩
 refine TW.at hS (TL.val (r_pickt T3 T0) (TL.m m0 (TL.gv m0 (r_move T8) (TL.gv m1 (show Run _ _ _ _ _ _ (.bool true) from n_eql 1 1 T0 .c rfl rfl) (TL.val (r_pickt T2 T0) (TL.m m0 (TL.gv m0 (r_move T13) (TL.gv m1 (r_move T17) (TL.perm p1 (TL.perm p2 (TL.gcall m2 (r_call ce_23 (.cons T1 (.cons T0 .nil))) (fun w hS => t23o (xs := h) (by omega) hS) ?_)))))))))))
 rintro _ w50 ⟨rfl, hS⟩
 exact TW.at hS (TL.val (r_pickt T3 T0) (TL.rm .h23 (TL.a m0 (TL.b (.hd .u21) (CT.ret (EX.end_ (.inl rfl) (res1 Tryz.results4 m0) (fun _ hS => ⟨rfl, hS.nil⟩)))))))
end Go.Eng
