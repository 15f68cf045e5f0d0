/- Parts of the proof of the card: Jb La Lb Lc Ld -/
import Derived.Test.YtkpadembffdepaaGreatDoorK5
import Derived.Test.YtkpadembffdepaaGreatDoorK4
import Derived.Test.YtkpadembffdepaaGreatDoorCards
import Derived.Test.YtkpadembffdepaaGreatDoorTie
import Derived.WalkKit
import Derived.ProofKit
import Derived.OpenShut
import Derived.Deep.DeepHandedRow
import Derived.Deep.Modes
import Derived.Deep.Frames
import Derived.Lib.LaidTab
import Derived.LaidHandle
import Derived.ChangeVars
import Derived.LaidByText
set_option maxRecDepth 100000
set_option maxHeartbeats 4000000
set_option linter.unusedVariables false
set_option linter.unusedSimpArgs false
namespace Go.Eng
open Go Go.Proofs Go.Infl
def BlkC (how most K : Nat) : Prop := ∀ {G w : World} {R : List HProp} (r p N : Nat) (vo : Value) (h : List Nat) (bs : List Bool) (f : Bool) (be : Nat), be ≤ h.length → h.length < 1048576 → bs.length < 68719476736 → N < 68719476736 →
 Sat G w (slc 1 vo h.length (h.map u8) :: Wr p bs :: Rdr G r N :: R) →
 CallsR Tryz.prog 46 #[pt r 0, pt p 0, vo, .int .i64 (-((be : Nat) : Int)), i64 how, i64 most, .bool f] w (fun v w' => ∃ (h1 : List Nat) (b : List Bool), IsBlk bs.length f (h.drop be) b h1 ∧ h1.length ≤ (h.drop be).length + K ∧ b.length ≤ 1073741824 ∧ Sat G w' (slc 1 v (h.take be ++ h1).length ((h.take be ++ h1).map u8) :: Wr p (bs ++ b) :: Rdr G r (N + 1073741824) :: R))
theorem blkC_2 {most : Nat} (hm : most ≤ 200) : BlkC 2 most (258 * most) := fun r p N vo h bs f be hbe hl hb hN hS => t46_2 r p N vo h bs f be most hm hbe hl hb hN hS
theorem Sat.newWr {G w : World} {R : List HProp} {p : Nat} (h : Sat G w (Eng.blk p 2 (lst [.slice none 0 0, .int .i64 0]) :: R)) : Sat G w (Wr p [] :: R) :=
 Sat.toWr (v := .slice none 0 0) ((nil_slc 1 h).perm (List.Perm.swap _ _ _))
theorem t51 (how blocks most K : Nat) (hB : BlkC how most K) (hK : K ≤ 65536) (hbl : blocks ≤ 7) (r N : Nat) (hN : N < 1073741824) {G : World} {R : List HProp} {w : World} (hS : Sat G w (Rdr G r (N) :: R)) :
 CallsR Tryz.prog 51 #[(pt r 0), (i64 how), (i64 blocks), (i64 most)] w (fun v w' => ∃ (v1 v2 : Value) (bits : List Bool) (h : List Nat), v = .tuple #[v1, v2] ∧ Strm 0 bits [] (h, true) ∧ h.length ≤ 8 * K ∧ bits.length ≤ 8589934592 ∧ Sat G w' (slc 1 v1 (pack bits).length ((pack bits).map u8) :: slc 1 v2 h.length (h.map u8) :: R)) := by
 refine calls_in (n := 39) [(0, (pt r 0)), (1, (i64 how)), (2, (i64 blocks)), (3, (i64 most))] Tryz.func51 rfl rfl hS args4 ?_
 refine CT.q (TL.val (r_asg .c) (TL.val (r_asg .c) (TL.q (TL.val (r_build (v := (.agg #[(.slice none 0 0), (.int .i64 0)])) .nil (fun _ => by kernel_rfl)) (TL.w (r_box (F := lst [(.slice none 0 0), (.int .i64 0)]) (.t m0) rfl rfl lst_ok) ?_)))))
 rintro _ w14 ⟨b14, rfl, hS⟩
 refine TW.at hS (TL.a m0 (TL.sub (.hd .u2) (TL.q (TL.val (r_asg .c) (TL.e (CT.seq (CT.q (TL.m m4 (TL.m m7 (TL.perm p1 (TL.call (r_call ce_39 (.cons (.t m1) (.cons (.t m0) .nil))) (fun w hS => t39 r blocks (N) (by omega) (by omega) hS) ?_)))))))))))
 rintro _ w17 ⟨y17, rfl, y17_l, hS⟩
 refine TW.at hS (TL.a m0 (TL.sub (.hd (.tl (.tl (.tl (.hd (.hd (.hd (.hd (.hd (.hd .u1)))))))))) (TL.e (CT.block (CT.nilslc 1 ?_)))))
 refine CT.perm p2 (CT.conv (fun _ h => h.newWr) ?_)
 refine CT.fold (A' := (Rdr G r (N + 1 + 1073741824 * 0))) a2 (Rdr_mono (by first | (show _ ≤ _; omega) | (show _ ≤ N + 1 + 1073741824 * (k + 1); omega))) (CT.perm p2 (CT.perm p1 (CT.perm p2 (CT.loop (X := Nat × Value × List Nat × List Bool) (fun gx => [(12, (i64 (y17 - gx.1))), (11, gx.2.1), (10, (pt b14 0)), (9, (.slice none 0 0)), (8, (.slice none 0 0)), (0, (pt r 0)), (1, (i64 how)), (3, (i64 most))]) (fun gx => (slc 1 gx.2.1 ((gx.2.2.1).length) ((gx.2.2.1).map u8)) :: Wr b14 gx.2.2.2 :: Rdr G r (N + 1 + 1073741824 * gx.1) :: R) (fun gx => gx.1 ≤ y17 ∧ Blks 0 gx.2.2.2 [] gx.2.2.1 ∧ (gx.2.2.1).length ≤ gx.1 * K ∧ (gx.2.2.2).length ≤ gx.1 * 1073741824) (fun gx => y17 - gx.1) ((0, (.slice none 0 0), ([] : List Nat), ([] : List Bool))) (⟨Nat.zero_le _, .nil, Nat.zero_le _, Nat.zero_le _⟩) (.refl _) (.eq m0 (by first | rfl | (congr 1 <;> omega)) (.sl 1 7 rfl)) ?_))))
 rintro ⟨k, v, h, bits⟩ ⟨hI1, hI2, hI3, hI4⟩
 replace hI1 : k ≤ y17 := hI1
 replace hI2 : Blks 0 bits [] h := hI2
 replace hI3 : h.length ≤ k * K := hI3
 replace hI4 : bits.length ≤ k * 1073741824 := hI4
 have hI5 : k * K ≤ 8 * K := Nat.mul_le_mul_right _ (by omega)
 refine CT.seq (CT.q (TL.m m0 (TL.val (n_gtr ((y17 - k)) 0 (.t m0) .c rfl rfl) (TL.sub (.hd .u1) (TL.e (CT.ifd m0 (fun c19 => ?_) (fun c19 => ?_)))))))
 ·
  refine CT.sub .u1 (CT.skip (EX.seq (CT.seq (CT.block (CT.region (TL.m m5 (TL.m m3 (TL.m m3 (TL.m m9 (TL.m m11 (TL.perm p2 (TL.perm p2 (TL.perm p2 (TL.call (r_call ce_46 (.cons (.t m4) (.cons (.t m3) (.cons (.t m2) (.cons .c (.cons (.t m1) (.cons (.t m0) (.cons .c .nil)))))))) (fun w hS => hB r b14 (N + 1 + 1073741824 * k) v h bits false 0 (Nat.zero_le _) (by omega) (by omega) (by omega) hS) ?_))))))))))))))
  rintro v27 w27 ⟨h27, d27, h27_b, h27_l, d27_l, hS⟩
  replace h27_b : IsBlk (bits).length false h d27 h27 := h27_b
  replace h27_l : h27.length ≤ (h).length + K := h27_l
  exact TW.at hS (TL.rm .h7 (TL.a m0 (TL.sub (.hd .u6) (TL.nil (EX.bnormal (EX.seq (CT.region (TL.m m1 (TL.val (n_sub ((y17 - k)) 1 9223372036854775808 (.t m0) .c rfl rfl (by omega) (by omega)) (TL.rm .h3 (TL.a m0 (TL.sub (.hd .u2) (TL.nil (EX.fold (A' := (Rdr G r (N + 1 + 1073741824 * (k + 1)))) a2 (Rdr_mono (by first | (show _ ≤ _; omega) | (show _ ≤ N + 1 + 1073741824 * (k + 1); omega))) (EX.again ((k + 1, v27, h27, bits ++ d27)) (⟨by omega, hI2.snoc (by rw [Nat.zero_add]; exact h27_b), by show h27.length ≤ (k + 1) * K; rw [Nat.succ_mul]; omega, by show (bits ++ d27).length ≤ (k + 1) * _; rw [List.length_append]; omega⟩) (by show y17 - (k + 1) < y17 - k; omega) (.refl _) (.eq m0 (by first | rfl | (congr 1 <;> omega)) (.sl 1 7 rfl)))))))))))))))))
 refine CT.sub .u1 (CT.exit (EX.then_exit (EX.then_exit (EX.out (EX.q (TL.m m5 (TL.m m3 (TL.m m3 (TL.m m9 (TL.m m11 (TL.perm p2 (TL.perm p2 (TL.perm p2 (TL.call (r_call ce_46 (.cons (.t m4) (.cons (.t m3) (.cons (.t m2) (.cons .c (.cons (.t m1) (.cons (.t m0) (.cons .c .nil)))))))) (fun w hS => hB r b14 (N + 1 + 1073741824 * k) v h bits true 0 (Nat.zero_le _) (by omega) (by omega) (by omega) hS) ?_))))))))))))))
 rintro v33 w33 ⟨h33, d33, h33_b, h33_l, d33_l, hS⟩
 replace h33_b : IsBlk (bits).length true h d33 h33 := h33_b
 replace h33_l : h33.length ≤ (h).length + K := h33_l
 refine TW.at hS (TL.rm .h7 (TL.a m0 (TL.sub (.hd .u6) (TL.e (CT.seq (CT.perm p1 (CT.wr ?_)))))))
 intro vs
 exact CT.region (TL.m m2 (TL.c m0 (TL.f 0 fo_39_0 m0 (TL.val (r_ld (v := vs) Tryz.isAgg22 m0 (.t m0) (by decide) rfl) (TL.m m4 (TL.rm .h9 (TL.a m1 (TL.rm .h9 (TL.a m1 (TL.sub (.hd (.hd .u5)) (TL.e (CT.ret (EX.end_ (.inl rfl) (res2 Tryz.results51 m1 m0) (fun _ hS => ⟨vs, v33, bits ++ d33, h33, rfl, ⟨bits, d33, h, rfl, hI2, .inl ⟨rfl, by rw [Nat.zero_add]; exact h33_b⟩⟩, by have := Nat.mul_le_mul_right K (show k + 1 ≤ 8 by omega); rw [Nat.succ_mul] at this; omega, by rw [List.length_append]; omega, keep2 hS.tail⟩))))))))))))))
theorem t24 {G : World} (cv : Value) (hc : CodeOf G cv) {R : List HProp} {w : World} (hS : Sat G w (R)) :
 CallsR Tryz.prog 24 #[cv] w (fun v w' => ∃ (v1 v2 : Value) (bits : List Bool) (h : List Nat), v = .tuple #[v1, v2] ∧ Strm 0 bits [] (h, true) ∧ h.length ≤ 131072 ∧ bits.length ≤ 8589934592 ∧ Sat G w' (slc 1 v1 (pack bits).length ((pack bits).map u8) :: slc 1 v2 h.length (h.map u8) :: R)) := by
 refine calls_in (n := 9) [(0, cv)] Tryz.func24 rfl rfl hS args1 ?_
 refine CT.q (TL.val (r_asg .c) (TL.val (r_asg .c) (TL.q (TL.m m2 (TL.call (r_call ce_35 (.cons (.t m0) .nil)) (fun w hS => t35 _ hc hS) ?_)))))
 rintro _ w5 ⟨b5, rfl, hS⟩
 refine TW.at hS (TL.call (r_call ce_51 (.cons (.t m0) (.cons .c (.cons .c (.cons .c .nil))))) (fun w hS => t51 2 3 40 (258 * 40) (blkC_2 (by decide)) (by decide) (by omega) b5 0 (by omega) hS) ?_)
 rintro _ w6 ⟨v1, v2, bits, h, rfl, hst, hhl, hbl, hS⟩
 exact TW.at hS (TL.val (r_ext (.t m0)) (TL.val (r_ext (.t m1)) (TL.rm .h6 (TL.a m1 (TL.rm .h6 (TL.a m1 (TL.sub (.hd (.hd .u6)) (TL.e (CT.ret (EX.end_ (.inl rfl) (res2 Tryz.results24 m1 m0) (fun _ hS => ⟨v1, v2, bits, h, rfl, hst, by omega, hbl, hS⟩)))))))))))
end Go.Eng
namespace Go.Eng
open Go Go.Proofs Go.Infl
theorem exg3 {p : Program} {f : FuncId} {a : Array Value} {w : World} {P : Value → World → Prop} (h : CallsR p f a w (fun v w' => ∃ (v1 : Value) (c u : Nat), v = .tuple #[v1, i64 c, i64 u] ∧ (true = true ∧ c = 1 ∨ true = false ∧ c = 2) ∧ P v1 w')) :
 CallsR p f a w (fun v w' => ∃ (v1 : Value) (u : Nat), v = .tuple #[v1, i64 1, i64 u] ∧ P v1 w') := by
 refine CallsR.mono h ?_
 rintro v w' ⟨v1, c, u, e, hc, hS⟩
 rcases hc with ⟨_, rfl⟩ | ⟨h, _⟩
 ·
  exact ⟨v1, u, e, hS⟩
 cases h
theorem exg2 {p : Program} {f : FuncId} {a : Array Value} {w : World} {P : Value → World → Prop} (h : CallsR p f a w (fun v w' => ∃ (v1 : Value) (c : Nat), v = .tuple #[v1, i64 c] ∧ (true = true ∧ c = 1 ∨ true = false ∧ c = 3) ∧ P v1 w')) :
 CallsR p f a w (fun v w' => ∃ (v1 : Value), v = .tuple #[v1, i64 1] ∧ P v1 w') := by
 refine CallsR.mono h ?_
 rintro v w' ⟨v1, c, e, hc, hS⟩
 rcases hc with ⟨_, rfl⟩ | ⟨h, _⟩
 ·
  exact ⟨v1, e, hS⟩
 cases h
theorem t19 {va vb : Value} {xs ys zs : List Nat} (hp : xs = ys ++ zs) (hl : xs.length < 9223372036854775807) {G : World} {R : List HProp} {w : World} (hS : Sat G w (slc 1 va xs.length (xs.map u8) :: slc 1 vb ys.length (ys.map u8) :: R)) :
 CallsR Tryz.prog 19 #[va, vb] w (fun v w' => v = .bool true ∧ Sat G w' (slc 1 va xs.length (xs.map u8) :: slc 1 vb ys.length (ys.map u8) :: R)) := by
 have hlen := congrArg List.length hp
 rw [List.length_append] at hlen
 refine calls_in (n := 26) [(0, va), (1, vb)] Tryz.func19 rfl rfl hS args2 ?_
 refine CT.q (TL.val (r_asg .c) (TL.e (CT.seq (CT.q (TL.m m2 (TL.val (r_lens Tryz.underlying22 (.t m0) m1) (TL.m m3 (TL.val (r_lens Tryz.underlying22 (.t m0) m0) (TL.val (n_gtr ys.length xs.length (.t m2) (.t m0) rfl rfl) (TL.sub (.hd .u4) (TL.e (CT.ifd m0 (fun c10 => ?_) (fun c10 => ?_)))))))))))))
 ·
  exfalso; omega
 refine CT.sub .u1 (CT.skip (EX.seq (CT.seq (CT.q (TL.m m2 (TL.val (r_lens Tryz.underlying22 (.t m0) m1) (TL.val (r_move .c) (TL.sub (.hd (.hd .u1)) (TL.e (CT.block (CT.loop (X := Nat) (fun gx => [(13, (i64 gx)), (12, (i64 ys.length)), (0, va), (1, vb)]) (fun gx => (slc 1 va xs.length (xs.map u8)) :: slc 1 vb ys.length (ys.map u8) :: R) (fun gx => gx ≤ ys.length) (fun gx => ys.length - gx) 0 (Nat.zero_le _) (.refl _) (.cons m0 (.cons m1 (.cons m3 (.cons m4 .nil)))) ?_)))))))))))
 rintro k hI
 refine CT.q (TL.val (n_lss k ys.length (.t m0) (.t m1) rfl rfl) (TL.e (CT.seq (CT.ifd m0 (fun c14 => ?_) (fun c14 => ?_)))))
 ·
  refine CT.sub .u1 (CT.skip (EX.seq (CT.seq (CT.block (CT.q (TL.m m0 (TL.a m0 (TL.sub (.hd .u1) (TL.e (CT.seq ?_))))))))))
  obtain ⟨x1, hx1⟩ : ∃ x1, ys[k]? = some x1 := ⟨_, List.getElem?_eq_getElem c14⟩
  have hx2 : xs[k]? = some x1 := by rw [hp, List.getElem?_append_left c14]; exact hx1
  refine CT.peek m0 (by omega) ?_
  intro d d_c d_v d_k d_l
  refine CT.peek m1 (by omega) ?_
  intro e e_c e_v e_k e_l
  refine CT.still fm (by kernel_rfl) ?_
  refine TS.val (r_move (.t m3)) (TS.val (r_move (.t m1)) (TS.val (r_ia (i := k) (off' := k) Tryz.underlying22 Tryz.sizeOf5 (.te m1 d_v) (.t m0) rfl (by omega) (by omega)) (TS.val (r_lds (u := (u8 x1)) Tryz.isAgg5 m0 d_v (.t m0) (by rw [List.getElem?_map, hx2]; rfl)) ?_)))
  refine TS.val (r_move (.t m8)) (TS.val (r_move (.t m5)) (TS.val (r_ia (i := k) (off' := k) Tryz.underlying22 Tryz.sizeOf5 (.te m1 e_v) (.t m0) rfl (by omega) (by omega)) (TS.val (r_lds (u := (u8 x1)) Tryz.isAgg5 m1 e_v (.t m0) (by rw [List.getElem?_map, hx1]; rfl)) ?_)))
  refine TS.val (n_neq x1 x1 (.t m4) (.t m0) rfl rfl) (TS.nil (TL.sub (.hd .u8) (TL.e (CT.ifd m0 (fun c24 => ?_) (fun c24 => ?_)))))
  ·
   exfalso; omega
  exact CT.sub .u1 (CT.skip (EX.bnormal (EX.seq (CT.region (TL.val (n_add k 1 9223372036854775808 (.t m1) .c rfl rfl (by omega)) (TL.rm .h2 (TL.m m0 (TL.sub (.hd .u1) (TL.nil (EX.again (k + 1) (by omega) (by omega) (.refl _) (.eq m0 (by first | rfl | (congr 1 <;> omega)) (.sl 2 3 rfl))))))))))))
 exact CT.sub .u1 (CT.exit (EX.then_exit (EX.then_exit (EX.out (EX.q (TL.val (r_asg .c) (TL.e (CT.ret (EX.end_ (.inl rfl) (res1 Tryz.results19 m0) (fun _ hS => ⟨rfl, hS⟩))))))))))
theorem t23 {va vb : Value} {xs : List Nat} (hl : xs.length < 9223372036854775807) {G : World} {R : List HProp} {w : World} (hS : Sat G w (slc 1 va xs.length (xs.map u8) :: slc 1 vb xs.length (xs.map u8) :: R)) :
 CallsR Tryz.prog 23 #[va, vb] w (fun v w' => v = .bool true ∧ Sat G w' (slc 1 va xs.length (xs.map u8) :: slc 1 vb xs.length (xs.map u8) :: R)) := by
 refine calls_in (n := 15) [(0, va), (1, vb)] Tryz.func23 rfl rfl hS args2 ?_
 refine CT.q (TL.val (r_asg .c) (TL.q (TL.m m1 (TL.val (r_lens Tryz.underlying22 (.t m0) m0) (TL.m m4 (TL.val (r_lens Tryz.underlying22 (.t m0) m1) (TL.val (n_eql xs.length xs.length (.t m2) (.t m0) rfl rfl) (TL.m m0 ?_))))))))
 by_cases g10 : xs.length = xs.length
 ·
  refine TL.sub (.eq m0 (congrArg Value.bool (decide_eq_true g10)) (.eq m1 (congrArg Value.bool (decide_eq_true g10)) (.cons m2 (.cons m3 (.cons m4 (.cons m5 (.cons m6 (.cons m7 (.cons m8 .nil))))))))) (TL.gv m0 (r_move (.t m7)) (TL.gv m1 (r_move (.t m9)) (TL.perm p1 (TL.perm p1 (TL.gcall m2 (r_call ce_19 (.cons (.t m1) (.cons (.t m0) .nil))) (fun w hS => t19 (ys := xs) (zs := []) (by simp) (by omega) hS) ?_)))))
  rintro _ w13 ⟨rfl, hS⟩
  exact TW.at hS (TL.val (r_pickt (.t m3) (.t m0)) (TL.rm .h10 (TL.a m0 (TL.sub (.hd .u12) (TL.e (CT.ret (EX.end_ (.inl rfl) (res1 Tryz.results23 m0) (fun _ hS => ⟨rfl, hS⟩))))))))
 exfalso; omega
theorem t5 {G w : World} {cv : Value} {ea eb : Addr} (hc : CodeOf G cv) (hL : LaidIs G ea eb) (hS : Sat G w []) :
 CallsR Tryz.prog 5 #[cv] w (fun v w' => v = .bool true ∧ Sat G w' []) := by
 have hc0 := hc
 obtain rfl | ⟨b, off, c, xs, rfl, hlc, hxs, hx⟩ := hc0
 ·
  refine calls_in (n := 48) [(0, (.slice none 0 0))] Tryz.func5 rfl rfl hS args1 ?_
  refine CT.q (TL.val (r_asg .c) (TL.e (CT.seq (CT.q (TL.m m1 (TL.val (r_len Tryz.underlying22 (.t m0)) (TL.val (show Run _ _ _ _ _ _ (.bool false) from n_gtr 0 2147483647 (.t m0) .c rfl rfl) (TL.sub (.hd .u2) (TL.e (CT.iff_ m0 ?_))))))))))
  refine CT.sub .u1 (CT.skip (EX.seq (CT.seq (CT.q (TL.m m1 (TL.val (r_len Tryz.underlying22 (.t m0)) (TL.val (show Run _ _ _ _ _ _ (.bool false) from n_gtr 0 16777216 (.t m0) .c rfl rfl) (TL.sub (.hd .u2) (TL.e (CT.iff_ m0 ?_))))))))))
  refine CT.sub .u1 (CT.skip (EX.q (TL.m m1 (TL.call (r_call ce_24 (.cons (.t m0) .nil)) (fun w hS => t24 _ hc hS) ?_))))
  rintro _ w18 ⟨v1, v2, bits, h, rfl, hst, hhl, hbl, hS⟩
  refine TW.at hS (TL.m m0 (TL.val (r_ext (.t m0)) (TL.val (r_ext (.t m1)) (TL.a m1 (TL.a m1 (TL.sub (.hd (.hd .u5)) (TL.q (TL.m m1 (TL.call (r_call ce_21 (.cons (.t m0) (.cons .c .nil))) (fun w hS => exg3 (t21 (B := bits) (st0 := bits) (tail0 := []) (outF := h) (gd := true) (by omega) (List.append_nil _).symm hst (by omega) hS)) ?_)))))))))
  rintro _ w23 ⟨r1, u, rfl, hS⟩
  refine TW.at hS (TL.m m0 (TL.val (r_ext (.t m0)) (TL.val (r_ext (.t m1)) (TL.val (r_ext (.t m2)) (TL.a m2 (TL.a m2 (TL.a m2 (TL.sub (.tl (.hd (.hd .u6))) (TL.q (TL.m m3 (TL.perm p1 (TL.call (r_call ce_18 (.cons (.t m0) (.cons .c .nil))) (fun w hS => exg2 (t18 (B := bits) (st := bits) (tail := []) (out := h) (gd := true) hL (by omega) (List.append_nil _).symm hst (by omega) hS)) ?_))))))))))))
  rintro _ w29 ⟨o1, rfl, hS⟩
  refine TW.at hS (TL.m m0 (TL.val (r_ext (.t m0)) (TL.val (r_ext (.t m1)) (TL.a m1 (TL.a m1 (TL.sub (.hd (.hd .u5)) (TL.q (TL.m m2 (TL.val (show Run _ _ _ _ _ _ (.bool true) from n_eql 1 1 (.t m0) .c rfl rfl) (TL.m m0 (TL.gv m0 (r_move (.t m6)) (TL.gv m1 (r_move (.t m8)) (TL.perm p3 (TL.perm p3 (TL.gcall m2 (r_call ce_23 (.cons (.t m1) (.cons (.t m0) .nil))) (fun w hS => t23 (xs := h) (by omega) hS) ?_)))))))))))))))
  rintro _ w37 ⟨rfl, hS⟩
  refine TW.at hS (TL.val (r_pickt (.t m3) (.t m0)) (TL.m m0 (TL.gv m0 (r_move (.t m8)) (TL.gv m1 (show Run _ _ _ _ _ _ (.bool true) from n_eql 1 1 (.t m0) .c rfl rfl) (TL.val (r_pickt (.t m2) (.t m0)) (TL.m m0 (TL.gv m0 (r_move (.t m13)) (TL.gv m1 (r_move (.t m17)) (TL.perm p1 (TL.perm p2 (TL.gcall m2 (r_call ce_23 (.cons (.t m1) (.cons (.t m0) .nil))) (fun w hS => t23 (xs := h) (by omega) hS) ?_)))))))))))
  rintro _ w46 ⟨rfl, hS⟩
  exact TW.at hS (TL.val (r_pickt (.t m3) (.t m0)) (TL.rm .h22 (TL.a m0 (TL.sub (.hd .u21) (TL.e (CT.ret (EX.end_ (.inl rfl) (res1 Tryz.results5 m0) (fun _ hS => ⟨rfl, hS.nil⟩))))))))
 refine calls_in (n := 48) [(0, (.slice (some ⟨b, off, none⟩) xs.length c))] Tryz.func5 rfl rfl hS args1 ?_
 refine CT.q (TL.val (r_asg .c) (TL.e (CT.seq (CT.q (TL.m m1 (TL.val (r_len Tryz.underlying22 (.t m0)) (TL.val (n_gtr xs.length 2147483647 (.t m0) .c rfl rfl) (TL.sub (.hd .u2) (TL.e (CT.ifd m0 (fun c12 => ?_) (fun c12 => ?_)))))))))))
 ·
  exact CT.sub .u1 (CT.q (TL.rm .here (TL.val (r_asg .c) (TL.e (CT.ret (EX.then_ret (EX.end_ (.inl rfl) (res1 Tryz.results5 m0) (fun _ hS => ⟨rfl, hS.nil⟩))))))))
 refine CT.sub .u1 (CT.skip (EX.seq (CT.seq (CT.q (TL.m m1 (TL.val (r_len Tryz.underlying22 (.t m0)) (TL.val (n_gtr xs.length 16777216 (.t m0) .c rfl rfl) (TL.sub (.hd .u2) (TL.e (CT.ifd m0 (fun c15 => ?_) (fun c15 => ?_)))))))))))
 ·
  exact CT.sub .u1 (CT.q (TL.rm .here (TL.val (r_asg .c) (TL.e (CT.ret (EX.then_ret (EX.end_ (.inl rfl) (res1 Tryz.results5 m0) (fun _ hS => ⟨rfl, hS.nil⟩))))))))
 refine CT.sub .u1 (CT.skip (EX.q (TL.m m1 (TL.call (r_call ce_24 (.cons (.t m0) .nil)) (fun w hS => t24 _ hc hS) ?_))))
 rintro _ w18 ⟨v1, v2, bits, h, rfl, hst, hhl, hbl, hS⟩
 refine TW.at hS (TL.m m0 (TL.val (r_ext (.t m0)) (TL.val (r_ext (.t m1)) (TL.a m1 (TL.a m1 (TL.sub (.hd (.hd .u5)) (TL.q (TL.m m1 (TL.call (r_call ce_21 (.cons (.t m0) (.cons .c .nil))) (fun w hS => exg3 (t21 (B := bits) (st0 := bits) (tail0 := []) (outF := h) (gd := true) (by omega) (List.append_nil _).symm hst (by omega) hS)) ?_)))))))))
 rintro _ w23 ⟨r1, u, rfl, hS⟩
 refine TW.at hS (TL.m m0 (TL.val (r_ext (.t m0)) (TL.val (r_ext (.t m1)) (TL.val (r_ext (.t m2)) (TL.a m2 (TL.a m2 (TL.a m2 (TL.sub (.tl (.hd (.hd .u6))) (TL.q (TL.m m3 (TL.perm p1 (TL.call (r_call ce_18 (.cons (.t m0) (.cons .c .nil))) (fun w hS => exg2 (t18 (B := bits) (st := bits) (tail := []) (out := h) (gd := true) hL (by omega) (List.append_nil _).symm hst (by omega) hS)) ?_))))))))))))
 rintro _ w29 ⟨o1, rfl, hS⟩
 refine TW.at hS (TL.m m0 (TL.val (r_ext (.t m0)) (TL.val (r_ext (.t m1)) (TL.a m1 (TL.a m1 (TL.sub (.hd (.hd .u5)) (TL.q (TL.m m2 (TL.val (show Run _ _ _ _ _ _ (.bool true) from n_eql 1 1 (.t m0) .c rfl rfl) (TL.m m0 (TL.gv m0 (r_move (.t m6)) (TL.gv m1 (r_move (.t m8)) (TL.perm p3 (TL.perm p3 (TL.gcall m2 (r_call ce_23 (.cons (.t m1) (.cons (.t m0) .nil))) (fun w hS => t23 (xs := h) (by omega) hS) ?_)))))))))))))))
 rintro _ w37 ⟨rfl, hS⟩
 refine TW.at hS (TL.val (r_pickt (.t m3) (.t m0)) (TL.m m0 (TL.gv m0 (r_move (.t m8)) (TL.gv m1 (show Run _ _ _ _ _ _ (.bool true) from n_eql 1 1 (.t m0) .c rfl rfl) (TL.val (r_pickt (.t m2) (.t m0)) (TL.m m0 (TL.gv m0 (r_move (.t m13)) (TL.gv m1 (r_move (.t m17)) (TL.perm p1 (TL.perm p2 (TL.gcall m2 (r_call ce_23 (.cons (.t m1) (.cons (.t m0) .nil))) (fun w hS => t23 (xs := h) (by omega) hS) ?_)))))))))))
 rintro _ w46 ⟨rfl, hS⟩
 exact TW.at hS (TL.val (r_pickt (.t m3) (.t m0)) (TL.rm .h22 (TL.a m0 (TL.sub (.hd .u21) (TL.e (CT.ret (EX.end_ (.inl rfl) (res1 Tryz.results5 m0) (fun _ hS => ⟨rfl, hS.nil⟩))))))))
end Go.Eng
namespace Go.Proofs.YtkpadembffdepaaGreatDoor
open Go Go.ChangeShapes Go.WideShapes Go.ChangeAt Go.RowKit Go.Eng
theorem own : ownKnob Tryz.prog.godebug = none := by kernel_rfl
theorem gEOF : Tryz.prog.globalNamed "io.EOF" = some 0 := by kernel_rfl
theorem gEOFt : (Tryz.prog.globals[0]?).map (·.type) = some 82 := by kernel_rfl
theorem cells5 : Tryz.prog.cellsOf 5 = 1 := by kernel_rfl
theorem laidFlat : (Rows.fnExactStoredRow.laid.filter fun x => x.2.handleName?.isNone) = [("io.ErrShortBuffer", Rows.laid_io_ErrShortBuffer), ("io.EOF", Rows.laid_io_EOF), ("io.ErrUnexpectedEOF", Rows.laid_io_ErrUnexpectedEOF), ("loop.example/pub-inflation/pub/inflate.codeOrder", Rows.laid_loop_example_pub_inflation_pub_inflate_codeOrder)] := by kernel_rfl
theorem laidHand : (Rows.fnExactStoredRow.laid.filter fun x => x.2.handleName?.isSome) = [("errors.errorType", Rows.laid_errors_errorType)] := by kernel_rfl
theorem laid_flat {W : World} (h : laidMetH Tryz.prog Rows.fnExactStoredRow.laid W) : laidMet Tryz.prog [("io.ErrShortBuffer", Rows.laid_io_ErrShortBuffer), ("io.EOF", Rows.laid_io_EOF), ("io.ErrUnexpectedEOF", Rows.laid_io_ErrUnexpectedEOF), ("loop.example/pub-inflation/pub/inflate.codeOrder", Rows.laid_loop_example_pub_inflation_pub_inflate_codeOrder)] W := by
 unfold laidMetH at h
 rw [laidHand, laidFlat] at h
 exact h.1
theorem star : "*" ++ "errors.errorString" = "*errors.errorString" := by decide
theorem row187 (u : TypeId) (h : Tryz.prog.typeName? 3 u = some "*errors.errorString") : u = 187 :=
 typeName_ptr_named (nm := "errors.errorString") (by rw [star]; kernel_rfl) (by kernel_rfl) (by decide) u (by rw [star]; exact h)
theorem sentinel_cell {W : World} {g : Nat} {cs : Array Value} {fuel : Nat} {p : List MemPlace} {s : List UInt8} {n : String} (hg : Tryz.prog.globalNamed n = some g) (hvar : W.var? Tryz.prog n = some cs)
 (hd : DataW.trod (fun _ => ()) Tryz.prog W 0 (fun _ => true) false fuel 82 cs.toList = some (.iface "*errors.errorString" (.ptr (.agg [.lit (.string s)])), p))
 (hok : ∀ u v, W.cell? ⟨g, 0, none⟩ = some (.iface u v) → Value.okWide Tryz.prog W .any 0 u v) : ∃ ea, W.cell? ⟨g, 0, none⟩ = some (.iface 187 (.pointer (some ea))) := by
 cases fuel with
 | zero => simp [DataW.trod] at hd
 | succ fuel =>
  rcases hcs : cs.toList with _ | ⟨x, _ | ⟨y, l⟩⟩
  ·
   rw [hcs] at hd; simp [DataW.trod, Tryz.underlying82] at hd
  ·
   rw [hcs] at hd
   have hc0 : W.cell? ⟨g, 0, none⟩ = some x := by
    have := World.var?_cell hg hvar 0
    rw [this, ← Array.getElem?_toList, hcs]; rfl
   cases x with
   | iface u v =>
    simp only [DataW.trod, Tryz.underlying82] at hd
    cases hn : Tryz.prog.typeName? 3 u with
    | none => rw [hn] at hd; cases hd
    | some name =>
     rw [hn] at hd
     simp only [Option.map_eq_some_iff] at hd
     obtain ⟨y, hy, he⟩ := hd
     simp only [Prod.mk.injEq, DataW.iface.injEq] at he
     obtain ⟨⟨rfl, he1⟩, he2⟩ := he
     obtain rfl := row187 u hn
     obtain ⟨a0, rfl⟩ := okWide_pointer Tryz.underlying187 (hok _ _ hc0)
     cases a0 with
     | some ea => exact ⟨ea, hc0⟩
     | none =>
      exfalso
      cases fuel with
      | zero => simp [DataW.trod] at hy
      | succ fuel =>
       simp [DataW.trod, Tryz.underlying187, Value.cells] at hy
       rw [← hy] at he1
       cases he1
   | _ => simp [DataW.trod, Tryz.underlying82] at hd
  rw [hcs] at hd; simp [DataW.trod, Tryz.underlying82] at hd
theorem gUE : Tryz.prog.globalNamed "io.ErrUnexpectedEOF" = some 1 := by kernel_rfl
theorem gUEt : (Tryz.prog.globals[1]?).map (·.type) = some 82 := by kernel_rfl
theorem gOrdt : (Tryz.prog.globals[3]?).map (·.type) = some 106 := by kernel_rfl
theorem gOrd : Tryz.prog.globalNamed "loop.example/pub-inflation/pub/inflate.codeOrder" = some 3 := by kernel_rfl
theorem gEt : Tryz.prog.globalNamed "errors.errorType" = some 2 := by kernel_rfl
theorem rtRow : (Tryz.prog.cutTypes.find? (·.1 == "internal/reflectlite.rtype")).map (·.2) = some 170 := by kernel_rfl
theorem errRow : ((List.range 218).filter fun t => Tryz.prog.rowNamed t [101, 114, 114, 111, 114]) = [82] := by kernel_rfl
theorem typesSize : Tryz.prog.types.size = 218 := by kernel_rfl
theorem cells106 : Tryz.prog.cellsOf 106 = 19 := by kernel_rfl
theorem cells3 : Tryz.prog.cellsOf 3 = 1 := by kernel_rfl
theorem et_of_laid {W : World} (h : laidMetH Tryz.prog Rows.fnExactStoredRow.laid W) : W.cell? ⟨2, 0, none⟩ = some (.iface 170 (.agg #[pt 7 82])) := by
 unfold laidMetH at h
 rw [laidHand, laidFlat] at h
 obtain ⟨name, u, ty, e1, e2, e3, e4, e5⟩ := h.2 _ (List.mem_singleton.2 rfl)
 have en : name = [101, 114, 114, 111, 114] := (Option.some.inj e1).symm
 subst en
 obtain rfl := Option.some.inj (rtRow.symm.trans e2)
 have hm : ty ∈ (List.range 218).filter fun t => Tryz.prog.rowNamed t [101, 114, 114, 111, 114] := List.mem_filter.2 ⟨List.mem_range.2 (by rw [← typesSize]; exact e3), e4⟩
 rw [errRow] at hm
 obtain rfl := List.mem_singleton.1 hm
 have hh : typeHandle Tryz.prog 82 = pt 7 82 := by kernel_rfl
 rw [hh] at e5
 simpa using World.var?_cell gEt e5 0
theorem laid_is {W : World} (h : laidMetH Tryz.prog Rows.fnExactStoredRow.laid W) : ∃ ea eb, LaidIs W ea eb := by
 have het := et_of_laid h
 obtain ⟨ps, ⟨_, _, _, _, _, _, _, _, _, _, ⟨g, t, cs, fuel, p, q, hg, ht, hvar, hd, ⟨g1, t1, cs1, fuel1, p1, q1, hg1, ht1, hvar1, hd1, ⟨g2, t2, cs2, fuel2, p2, q2, hg2, ht2, hvar2, hd2, _, hps3⟩, hps2⟩, hps1⟩, hps0⟩, _, hok⟩ := laid_flat h
 obtain rfl := Option.some.inj (gEOF.symm.trans hg)
 obtain rfl := Option.some.inj (gEOFt.symm.trans ht)
 obtain rfl := Option.some.inj (gUE.symm.trans hg1)
 obtain rfl := Option.some.inj (gUEt.symm.trans ht1)
 obtain rfl := Option.some.inj (gOrd.symm.trans hg2)
 obtain rfl := Option.some.inj (gOrdt.symm.trans ht2)
 have hsize : ∀ {n : String} {g : Nat} {cs : Array Value} {x : Value}, Tryz.prog.globalNamed n = some g → W.var? Tryz.prog n = some cs → W.cell? ⟨g, 0, none⟩ = some x → 0 < cs.size := fun {n g cs x} hg hvar hc => by
  rcases Nat.eq_zero_or_pos cs.size with h0 | h0
  ·
   have := World.var?_cell hg hvar 0
   rw [Array.getElem?_eq_none (by omega)] at this
   rw [this] at hc; cases hc
  exact h0
 obtain ⟨ea, h1⟩ := sentinel_cell hg hvar hd fun u v hc => by
  refine (hok 0 0 ?_).2 u v hc
  have hsz := hsize hg hvar hc
  rw [hps0, hps1]
  simp only [List.mem_append, MemPlace.row, List.mem_map, List.mem_range]
  exact .inr (.inl (.inl ⟨0, hsz, rfl⟩))
 obtain ⟨eb, h2⟩ := sentinel_cell hg1 hvar1 hd1 fun u v hc => by
  refine (hok 1 0 ?_).2 u v hc
  have hsz := hsize hg1 hvar1 hc
  rw [hps0, hps1, hps2]
  simp only [List.mem_append, MemPlace.row, List.mem_map, List.mem_range]
  exact .inr (.inr (.inl (.inl ⟨0, hsz, rfl⟩)))
 refine ⟨ea, eb, h1, h2, fun i hi => ?_, het⟩
 have hcs : cs2.toList = (Go.Infl.ordr.map fun n : Nat => (n : Int)).map fun z => Value.int .i64 z := Lib.cells_of_tab (k := .i64) Tryz.underlying106 Tryz.underlying3 cells3 cells106 (zs := Go.Infl.ordr.map fun n : Nat => (n : Int)) hd2
 have := World.var?_cell hg2 hvar2 i
 rw [this, ← Array.getElem?_toList, hcs]
 have hi' : i < Go.Infl.ordr.length := hi
 rw [List.getElem?_map, List.getElem?_map, List.getD_eq_getElem?_getD, List.getElem?_eq_getElem hi']
 rfl
theorem code_of_arg {W : World} {base : Nat} {H : Type} {enc : TypeId × Value → H} {v : Value} {d : DataW H} {p : List MemPlace} (hval : Value.okWide Tryz.prog W .any base 22 v) (hd : DataW.Trod enc Tryz.prog W 0 (fun _ => true) true 22 v d p) :
 CodeOf W v ∧ ∀ (W' : World) (sp : Nat → Bool), (∀ x ∈ p, W.sameAt W' x) → (∀ x ∈ p, sp x.block = true) → DataW.Trod enc Tryz.prog W' 0 sp true 22 v d p := by
 obtain ⟨a1, len, cap, rfl⟩ := okWide_slice Tryz.underlying22 hval
 obtain ⟨fuel, hf⟩ := hd
 rcases open_ints Tryz.underlying22 Tryz.underlying5 cells5 hf with ⟨hcs, hx⟩ | ⟨a, len', cap', zs, hcs, _, hl, hm, hz, hx, hcell, hwz⟩
 ·
  simp [Value.cells] at hcs
  obtain ⟨rfl, rfl, rfl⟩ := hcs
  simp only [Prod.mk.injEq] at hx
  obtain ⟨rfl, rfl⟩ := hx
  exact ⟨.inl rfl, fun W' sp _ _ => shut_slice_nil Tryz.underlying22⟩
 simp [Value.cells] at hcs
 obtain ⟨rfl, rfl, rfl⟩ := hcs
 simp only [Prod.mk.injEq] at hx
 obtain ⟨rfl, rfl⟩ := hx
 simp only [if_true] at hz
 have hspot : a.spot = none := by
  simp only [Value.okWide, Tryz.underlying22, Cell.okWide, Cell.ok] at hval
  exact hval.2.2.2.1
 obtain ⟨b, off, spot⟩ := a
 obtain rfl : spot = none := hspot
 have hc : ∀ j, j < zs.length → W.cell? ⟨b, off + j, none⟩ = some (.int .u8 (zs.getD j 0)) := fun j hj => by rw [← add_plain]; exact hcell j hj
 have hu : ∀ n ∈ zs, 0 ≤ n ∧ n < 256 := fun n hn => by
  have := hwz n hn
  simp [Lit.wf, IntKind.min, IntKind.max, IntKind.signed, IntKind.bits] at this
  omega
 refine ⟨.inr ⟨b, off, cap, (zs.take len).map Int.toNat, ?_, ?_, ?_, ?_⟩, fun W' sp hs hsp => ⟨2, ?_⟩⟩
 ·
  rw [List.length_map, List.length_take, Nat.min_eq_left (by omega)]
 ·
  rw [List.length_map, List.length_take]; omega
 ·
  intro x hx
  obtain ⟨n, hn, rfl⟩ := List.mem_map.1 hx
  have := hu n (List.mem_of_mem_take hn)
  omega
 ·
  intro j x hj
  rw [List.getElem?_map, List.getElem?_take] at hj
  split at hj
  ·
   cases hz2 : zs[j]? with
   | none => rw [hz2] at hj; cases hj
   | some n =>
    rw [hz2] at hj
    have hx : n.toNat = x := Option.some.inj hj
    subst hx
    obtain ⟨hlt, hn⟩ := List.getElem?_eq_some_iff.1 hz2
    rw [hc j hlt, List.getD_eq_getElem?_getD, hz2]
    have := hu n (List.mem_of_getElem? hz2)
    show some (Value.int .u8 n) = some (Value.int .u8 (n.toNat : Int))
    rw [Int.toNat_of_nonneg this.1]
  cases hj
 refine shut_ints' 0 Tryz.underlying22 Tryz.underlying5 cells5 (Nat.zero_le _) hl hm ?_ ?_ hwz
 ·
  rw [hz]
  rcases Nat.eq_zero_or_pos cap with h0 | h0
  ·
   split <;> omega
  rw [if_pos (show sp b = true from hsp (.cell b off) (by simp only [MemPlace.row, List.mem_map, List.mem_range]; exact ⟨0, by omega, rfl⟩))]
 intro j hj
 have := hs (.cell b (off + j)) (by simp only [MemPlace.row, List.mem_map, List.mem_range]; exact ⟨j, hj, rfl⟩)
 rw [show W'.cell? ⟨b, off + j, none⟩ = W.cell? ⟨b, off + j, none⟩ from this]
 exact hc j hj
end Go.Proofs.YtkpadembffdepaaGreatDoor
namespace Go.Proofs.YtkpadembffdepaaGreatDoor
open Go Go.ChangeShapes Go.WideShapes Go.ChangeAt Go.RowKit Go.Eng
theorem same_of_sat {W W' : World} {L : List HProp} (h : Sat W W' L) {p : MemPlace} (hb : p.block < W.heap.size) : W.sameAt W' p := by
 cases p with
 | cell b o =>
  have := h.base b hb
  simp [World.sameAt, World.cell?, this]
 | map b =>
  have := h.base b hb
  simp [World.sameAt, this]
theorem var_of_sat {W W' : World} {L : List HProp} {n : String} {cs : Array Value} (h : Sat W W' L) (hv : W.var? Tryz.prog n = some cs) : W'.var? Tryz.prog n = some cs := by
 unfold World.var? at hv ⊢
 cases hg : Tryz.prog.globalNamed n with
 | none => rw [hg] at hv; cases hv
 | some g =>
  rw [hg] at hv
  simp only [Option.bind_some] at hv ⊢
  have hlt : g < W.heap.size := by
   rcases Nat.lt_or_ge g W.heap.size with h1 | h1
   ·
    exact h1
   rw [Array.getElem?_eq_none h1] at hv; cases hv
  rw [h.base g hlt]
  exact hv
theorem laidOut : laidOutB Tryz.prog = true := by kernel_rfl
theorem read106 : Tryz.prog.readableRec 106 = true := by kernel_rfl
theorem row106 : 106 < Tryz.prog.types.size := of_decide_eq_true (by kernel_rfl)
theorem sl106 : Tryz.prog.slicesRec 106 = false := by kernel_rfl
theorem if106 : Tryz.prog.ifacesRec 106 = false := by kernel_rfl
theorem ve106 : Tryz.prog.veiledRec 106 = false := by kernel_rfl
theorem contract_of {f : FuncId} {fn : Func} {s : ChangeSpec} (hp : fn.params = #[22]) (hr : fn.resultTypes = #[4]) (hv : s.vars = ["loop.example/pub-inflation/pub/inflate.codeOrder"])
 (hs : ∀ (H : Type) (d g1 : DataW H), s.fn H [d, g1] = { results := [.lit (.bool true)], args := [d], vars := [g1] })
 (walk : ∀ (W : World) (v : Value), CodeOf W v → laidMetH Tryz.prog Rows.fnExactStoredRow.laid W → CallsR Tryz.prog f #[v] W (fun r w' => r = .bool true ∧ Sat W w' []))
 {H : Type} {enc : TypeId × Value → H} {W : World} {base : Nat} {args : Array Value} {ds gs : List (DataW H)} {before : List MemPlace} {fresh handsOn again : Bool}
 (hval : ∀ (j : Nat) t v, fn.params[j]? = some t → args[j]? = some v → Value.okWide Tryz.prog W .any base t v)
 (hW : DataW.Whole enc Tryz.prog fn.params.toList s.vars false W args.toList ds gs before) (hL : laidMetH Tryz.prog Rows.fnExactStoredRow.laid W) :
 Calls Tryz.prog f args W fun e W' => ∃ v, e = .returned v ∧ s.post enc Tryz.prog fn false fresh handsOn again W args v W' := by
 have hW' := hW
 obtain ⟨p, q, hA0, hV, rfl, hfz, hnd⟩ := hW
 have hA : DataW.TrodAll enc Tryz.prog W 0 (fun _ => true) true fn.params.toList args.toList ds p := hA0
 rw [hp] at hA hval
 obtain ⟨v0, vs0, d0, ds0, p0, q0, hargs, rfl, rfl, h0, r0⟩ := trodAll_cons hA
 obtain ⟨rfl, rfl, rfl⟩ := trodAll_nil r0
 obtain rfl : args = #[v0] := by cases args; simp_all
 rw [hv] at hV
 obtain ⟨g, t, cs, fuel, d1, pv, rfl, hg, ht, hvar, hd1, rfl⟩ := trodVars_one hV
 obtain rfl := Option.some.inj (gOrd.symm.trans hg)
 obtain rfl := Option.some.inj (gOrdt.symm.trans ht)
 obtain ⟨hc, hre⟩ := code_of_arg (hval 0 22 v0 rfl rfl) h0
 have hlt := hW'.lt
 refine Calls.mono (walk W v0 hc hL) fun e W' he => ?_
 cases e with
 | returned r =>
  obtain ⟨rfl, hS⟩ := he
  have e1 : s.fn H ([d0] ++ [d1]) = { results := [.lit (.bool true)], args := [d0], vars := [d1] } := hs H d0 d1
  refine ⟨_, rfl, post_of_same (pa := p0 ++ []) (pv := MemPlace.row ⟨3, 0, none⟩ cs.size ++ pv) hW' ?_ ?_ ?_ rfl (hS.grown.frame _) hS.grown.2.1 ?_⟩
  ·
   intro b sp hd
   rw [e1, hr]
   exact trodAll_cons_mk (shut_bool Tryz.underlying4 _) trodAll_mk0
  ·
   intro sp hsp
   rw [e1, hp]
   refine trodAll_cons_mk (hre W' sp (fun x hx => same_of_sat hS (hlt x ?_)) (fun x hx => hsp x ?_)) trodAll_mk0
   ·
    simp [hx]
   simp [hx]
  ·
   intro sp hsp
   rw [e1, hv]
   exact trodVars_mk1 gOrd gOrdt (var_of_sat hS hvar) (trod_any laidOut read106 row106 sl106 if106 hd1 (fun x hx => same_of_sat hS (hlt x (by simp [show x ∈ pv from hx]))) ve106)
  exact ok_one (f := fn) hr (by first | rfl | (rw [hr]; rfl)) (okWide_bool_mk Tryz.underlying4 _)
 | _ => exact he.elim
end Go.Proofs.YtkpadembffdepaaGreatDoor
namespace Go.Proofs.YtkpadembffdepaaGreatDoor
open Go Go.ChangeShapes Go.WideShapes Go.ChangeAt Go.RowKit Go.Eng
noncomputable def laidWorld (os : Os) : World :=
 let w0 := World.holding Tryz.prog os ⟨#[], #[], []⟩
 { w0 with heap := (((((((w0.heap.modify 0 fun
  | .cells _ t frozen => .cells #[.iface 187 (pt 12 0)] t frozen
  | o => o).modify 1 fun
  | .cells _ t frozen => .cells #[.iface 187 (pt 13 0)] t frozen
  | o => o).modify 2 fun
  | .cells _ t frozen => .cells #[.iface 170 (.agg #[pt 7 82])] t frozen
  | o => o).modify 3 fun
  | .cells _ t frozen => .cells #[.int .i64 16, .int .i64 17, .int .i64 18, .int .i64 0, .int .i64 8, .int .i64 7, .int .i64 9, .int .i64 6, .int .i64 10, .int .i64 5, .int .i64 11, .int .i64 4, .int .i64 12, .int .i64 3, .int .i64 13, .int .i64 2, .int .i64 14, .int .i64 1, .int .i64 15] t frozen
  | o => o).modify 4 fun
  | .cells _ t frozen => .cells #[.iface 187 (pt 14 0)] t frozen
  | o => o).push (.cells #[.string ⟨#[69, 79, 70]⟩] 207 (0, 0))).push (.cells #[.string ⟨#[117, 110, 101, 120, 112, 101, 99, 116, 101, 100, 32, 69, 79, 70]⟩] 207 (0, 0))).push (.cells #[.string ⟨#[115, 104, 111, 114, 116, 32, 98, 117, 102, 102, 101, 114]⟩] 207 (0, 0)) }
theorem laid_met (os : Os) : laidMetH Tryz.prog Rows.fnExactStoredRow.laid ((laidWorld os).forCall (fun _ _ => 0) ⟨#[], #[.slice none 0 0], []⟩).memory :=
 laidMetH_of_parts (laidMet_of_run' 8 (by kernel_rfl) (by kernel_rfl)) (by kernel_rfl)
theorem wit_vars (os : Os) : ((laidWorld os).forCall (fun _ _ => 0) ⟨#[], #[.slice none 0 0], []⟩).variablesB Tryz.checked.prog = true := by kernel_rfl
theorem wit_rest (os : Os) : (((laidWorld os).forCall (fun _ _ => 0) ⟨#[], #[.slice none 0 0], []⟩).heap.toList.drop Tryz.checked.prog.globals.size).take ((begin Tryz.checked.prog (fun _ _ => 0) default).world.heap.size - Tryz.checked.prog.globals.size) =
 (begin Tryz.checked.prog (fun _ _ => 0) default).world.heap.toList.drop Tryz.checked.prog.globals.size := by kernel_rfl
theorem reads (os : Os) {H : Type} (enc : TypeId × Value → H) : DataW.whole enc Tryz.prog ((laidWorld os).forCall (fun _ _ => 0) ⟨#[], #[.slice none 0 0], []⟩).memory [22] ["loop.example/pub-inflation/pub/inflate.codeOrder"] false #[Value.slice none 0 0].toList 8 =
 some ([.nil], [Rows.laid_loop_example_pub_inflation_pub_inflate_codeOrder], MemPlace.row ⟨3, 0, none⟩ 19) := by kernel_rfl
end Go.Proofs.YtkpadembffdepaaGreatDoor
