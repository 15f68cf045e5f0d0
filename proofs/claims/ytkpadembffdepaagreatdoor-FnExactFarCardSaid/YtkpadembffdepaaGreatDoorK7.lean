/- Parts of the proof of the card: Jd La -/
import Derived.Test.YtkpadembffdepaaGreatDoorK5
import Derived.Test.YtkpadembffdepaaGreatDoorK4
set_option maxRecDepth 100000
set_option maxHeartbeats 4000000
set_option linter.unusedVariables false
set_option linter.unusedSimpArgs false
namespace Go.Eng
open Go Go.Proofs Go.Infl
def obf (xs : List Nat) (j : Nat) : Value := u8 (xs.getD j 0)
theorem obf_upd {xs : List Nat} {k x : Nat} (h : k < xs.length) : upd (obf xs) k (u8 x) = obf (xs.set k x) := by
 funext j
 unfold upd obf
 by_cases e : j = k
 ·
  subst e
  rw [if_pos rfl, List.getD_eq_getElem?_getD, List.getElem?_set, if_pos rfl, if_pos h]; rfl
 have e2 : ¬ k = j := fun h => e h.symm
 rw [if_neg e, List.getD_eq_getElem?_getD, List.getD_eq_getElem?_getD, List.getElem?_set, if_neg e2]
theorem obf_zero {n : Nat} : (fun _ => .int .u8 0) = obf (List.replicate n 0) := by
 funext j
 unfold obf
 rw [List.getD_eq_getElem?_getD, List.getElem?_replicate]
 split <;> rfl
theorem obf_done {xs : List Nat} {n b : Nat} (h : xs.length = n) : ∀ m, Eng.blk b n (obf xs) m → Eng.slc 1 (.slice (some ⟨b, 0, none⟩) n n) xs.length (xs.map u8) m := by
 subst h
 refine mk_slc1 (by rw [List.length_map]) (Nat.le_refl _) fun j x hj => ?_
 rw [List.getElem?_map] at hj
 cases hx : xs[j]? with
 | none => rw [hx] at hj; cases hj
 | some y =>
  rw [hx] at hj
  unfold obf
  rw [List.getD_eq_getElem?_getD, hx]
  exact Option.some.inj hj
theorem gives_far {its : List It} {n : Nat} (H : ItOk n its) (h : List Nat) : (gives h its).length ≤ h.length + 258 * its.length := by
 have h1 := gives_length its h
 have h2 := itSize_take H its.length
 rw [List.take_length] at h2
 omega
theorem keep2h {G w : World} {R : List HProp} {A B C D : HProp} (h : Sat G w (A :: B :: C :: D :: R)) : Sat G w (A :: B :: R) := ((h.perm p3).tail.perm p2).tail
theorem t25 {G : World} (cv : Value) (hc : CodeOf G cv) {R : List HProp} {w : World} (hS : Sat G w (R)) :
 CallsR Tryz.prog 25 #[cv] w (fun v w' => ∃ (v1 v2 : Value) (bits : List Bool) (h : List Nat), v = .tuple #[v1, v2] ∧ Strm 0 bits [] (h, true) ∧ h.length ≤ 131072 ∧ bits.length ≤ 8589934592 ∧ Sat G w' (slc 1 v1 (pack bits).length ((pack bits).map u8) :: slc 1 v2 h.length (h.map u8) :: R)) := by
 refine calls_in (n := 83) [(0, cv)] Tryz.func25 rfl rfl hS args1 ?_
 refine CT.q (TL.val (r_asg .c) (TL.val (r_asg .c) (TL.q (TL.m m2 (TL.call (r_call ce_35 (.cons T0 .nil)) (fun w hS => t35 _ hc hS) ?_)))))
 rintro _ w12 ⟨b12, rfl, hS⟩
 refine TW.at hS (TL.a m0 (TL.r (.hd (.tl (.tl (.hd (.hd .u1))))) (TL.val (r_build (v := (.agg #[(.slice none 0 0), (.int .i64 0)])) .nil (fun _ => by kernel_rfl)) (TL.w (r_box (F := lst [(.slice none 0 0), (.int .i64 0)]) T0 rfl rfl lst_ok) ?_))))
 rintro _ w14 ⟨b14, rfl, hS⟩
 refine TW.at hS (TL.a m0 (TL.r (.hd .u2) (TL.val (r_asg .c) (TL.e (CT.seq (CT.block (CT.nilslc 1 ?_)))))))
 refine CT.perm p1 (CT.conv (fun _ h => h.newWr) ?_)
 refine CT.fold (A' := (Rdr G b12 (0 + ([] : List Nat).length))) a2 (Rdr_mono (by exact Nat.le_refl _)) (CT.perm p2 (CT.perm p1 (CT.perm p2 (CT.loop (X := Value × List Nat × List Bool) (fun gx => [(6, gx.1), (5, (pt b14 0)), (4, (pt b12 0)), (3, (.slice none 0 0)), (2, (.slice none 0 0))]) (fun gx => (slc 1 gx.1 ((gx.2.1).length) ((gx.2.1).map u8)) :: Wr b14 gx.2.2 :: Rdr G b12 (0 + (gx.2.1).length) :: R) (fun gx => Blks 0 gx.2.2 [] gx.2.1 ∧ (gx.2.1).length ≤ 72999 ∧ (gx.2.2).length ≤ 9 * (gx.2.1).length) (fun gx => 73000 - (gx.2.1).length) (((.slice none 0 0), ([] : List Nat), ([] : List Bool))) (⟨.nil, Nat.zero_le _, Nat.zero_le _⟩) (.refl _) (.sl 0 5 rfl) ?_))))
 rintro ⟨v, h, bits⟩ ⟨hI1, hI2, hI3⟩
 replace hI1 : Blks 0 bits [] h := hI1
 replace hI2 : h.length ≤ 72999 := hI2
 replace hI3 : bits.length ≤ 9 * h.length := hI3
 refine CT.seq (CT.q (TL.m m0 (TL.val (r_lens Tryz.underlying22 T0 m0) (TL.val (n_lss ((h).length) 33000 T0 .c) (TL.b (.hd .u2) (CT.ifd m0 (fun c17 => ?_) (fun c17 => ?_)))))))
 ·
  refine CT.z (EX.seq (CT.block (CT.q (TL.m m2 (TL.w (r_buildSlice (k := 4) (e := 3) (cs := #[(.int .i64 1000), (.int .i64 20000), (.int .i64 32768), (.int .i64 40000)]) (F := lst [(.int .i64 1000), (.int .i64 20000), (.int .i64 32768), (.int .i64 40000)]) (.cons .c (.cons .c (.cons .c (.cons .c .nil)))) (fun _ => by kernel_rfl) rfl lst_ok) ?_)))))
  rintro _ w19 ⟨b19, rfl, hS⟩
  refine TW.at hS (TL.perm p3 (TL.perm p1 (TL.call (r_call ce_45 (.cons T1 (.cons T0 .nil))) (fun w hS => t45 b12 b19 [1000, 20000, 32768, 40000] (0 + (h).length) (Nat.zero_lt_succ _) (by show _ < _; simp) (by omega) hS) ?_)))
  rintro _ w20 ⟨y20, rfl, y20_m, hS⟩
  refine TW.at hS ?_
  simp only [List.mem_cons, List.not_mem_nil, or_false] at y20_m
  have hy20 : 1000 ≤ y20 ∧ y20 ≤ 40000 := by omega
  refine TL.w (r_make (l := y20) (c := y20) Tryz.underlying22 Tryz.sizeOf5 ⟨_, Tryz.typeInfo5, rfl⟩ Tryz.zeroValue5 rfl T0 T0 rfl rfl (by omega) (by exact Nat.le_trans (Nat.mul_le_mul_right _ hy20.2) (Nat.le_of_ble_eq_true rfl)) (by omega)) ?_
  rintro _ w21 ⟨b21, rfl, hS⟩
  refine TW.at hS (TL.a m0 (TL.b (.hd .u4) (CT.seq (CT.q (TL.m m0 (TL.val (r_len Tryz.underlying22 T0) (TL.val (r_move .c) (TL.b (.hd (.hd .u1)) (CT.block (CT.fold (A' := (blk b21 y20 (obf (List.replicate y20 0)))) a0 (blk_eq rfl obf_zero) (CT.fold (A' := (Rdr G b12 (0 + (h).length + 1))) a1 (Rdr_mono (by omega)) (CT.perm p1 (CT.perm p3 (CT.perm p3 (CT.perm p3 (CT.loop (X := Nat × List Nat) (fun gx => [(24, (i64 gx.1)), (23, (i64 y20)), (7, (.slice (some ⟨b21, 0, none⟩) y20 y20)), (6, v), (5, (pt b14 0)), (4, (pt b12 0)), (3, (.slice none 0 0)), (2, (.slice none 0 0))]) (fun gx => (blk b21 y20 (obf gx.2)) :: slc 1 v ((h).length) ((h).map u8) :: Wr b14 bits :: Rdr G b12 (0 + (h).length + 1) :: R) (fun gx => gx.1 ≤ y20 ∧ (gx.2).length = y20 ∧ ∀ x ∈ gx.2, x < 256) (fun gx => y20 - gx.1) ((0, List.replicate y20 0)) (⟨Nat.zero_le _, List.length_replicate, fun x hx => by rw [(List.mem_replicate.1 hx).2]; decide⟩) (.refl _) (.sl 0 8 rfl) ?_))))))))))))))))
  rintro ⟨k, xs⟩ ⟨hk, hxl, hxb⟩
  replace hk : k ≤ y20 := hk
  replace hxl : xs.length = y20 := hxl
  replace hxb : ∀ x ∈ xs, x < 256 := hxb
  refine CT.q (TL.val (n_lss k y20 T0 T1) (TL.e (CT.seq (CT.ifd m0 (fun c25 => ?_) (fun c25 => ?_)))))
  ·
   exact CT.z (EX.seq (CT.seq (CT.block (CT.q (TL.m m0 (TL.a m0 (TL.b (.hd .u1) (CT.region (TL.m m3 (TL.m m1 (TL.m m2 (TL.val (n_mul k 7 9223372036854775808 T0 .c) (TL.m m4 (TL.val (n_quo k 251 9223372036854775808 T0 .c rfl rfl (by omega) (by omega)) (TL.val (n_mul ((k / 251)) 3 9223372036854775808 T0 .c) (TL.val (n_add ((k * 7)) (((k / 251) * 3)) 9223372036854775808 T3 T0) (TL.m m12 (TL.val (r_lens Tryz.underlying22 T0 m1) (TL.val (n_add (((k * 7) + ((k / 251) * 3))) ((h).length) 9223372036854775808 T2 T0) (TL.val (n_convm ((((k * 7) + ((k / 251) * 3)) + (h).length)) 256 ⟨_, Tryz.underlying3⟩ Tryz.underlying5 T0 rfl) (TL.val (r_ia (i := k) (off' := k) Tryz.underlying22 Tryz.sizeOf5 T11 T10 rfl (by omega) (by omega)) (TL.s (r_st (F' := obf (xs.set k (((((k * 7) + ((k / 251) * 3)) + (h).length) % 256)))) Tryz.sizeOf5 (obf_upd (by omega)) a0 T0 T1 (by omega)) (TL.x .u13 (EX.bnormal (EX.seq (CT.region (TL.val (n_add k 1 9223372036854775808 T1 .c) (TL.rm .h2 (TL.m m0 (TL.x (.hd .u1) (EX.again ((k + 1, xs.set k (((((k * 7) + ((k / 251) * 3)) + (h).length) % 256)))) (⟨(show k + 1 ≤ y20 by omega), (by show (xs.set k (((((k * 7) + ((k / 251) * 3)) + (h).length) % 256))).length = y20; rw [List.length_set]; exact hxl), (by show ∀ x ∈ xs.set k (((((k * 7) + ((k / 251) * 3)) + (h).length) % 256)), x < 256; intro x hx; rcases List.mem_or_eq_of_mem_set hx with h | h; exact hxb x h; rw [h]; omega)⟩) (by show y20 - (k + 1) < y20 - k; omega) (.refl _) (.eq m0 (by first | rfl | (congr 1 <;> omega)) (.sl 2 7 rfl)))))))))))))))))))))))))))))))))
  refine CT.sub .u1 (CT.exit (EX.then_exit (EX.then_exit (EX.out (EX.seq (CT.seq (CT.fold (A' := (slc 1 (.slice (some ⟨b21, 0, none⟩) y20 y20) xs.length (xs.map u8))) a0 (obf_done hxl) (CT.region (TL.m m4 (TL.m m3 (TL.perm p2 (TL.perm p1 (TL.call (r_call ce_52 (.cons T1 (.cons T0 (.cons .c (.cons .c .nil))))) (fun w hS => t52 b14 (.slice (some ⟨b21, 0, none⟩) y20 y20) xs false 0 bits (by omega) (by omega) (by omega) hxb hS) ?_)))))))))))))
  rintro _ w43 ⟨rfl, ps43, ps43_l, ps43_m, hS⟩
  refine TW.at hS (TL.b .u3 (CT.region (TL.m m3 (TL.m m3 (TL.perm p2 (TL.w (r_appends (j := xs.length) (k := (h).length) (ds := xs.map u8) el_22 Tryz.underlying22 T1 T0 m1 (ones_map one_u8) (by omega) (by omega)) ?_))))))
  rintro v46 w46 hS
  have ho46 := hS.slc_one
  refine TW.at hS (TL.fold (A' := (slc 1 v46 ((h ++ xs).length) ((h ++ xs).map u8))) a0 (slc_eq (by rw [List.length_append]) (List.map_append.symm)) ?_)
  refine TL.rm .h6 (TL.a m0 (TL.x (.hd .u3) (EX.bnormal (EX.fold (A' := (Rdr G b12 (0 + (h ++ xs).length))) a3 (Rdr_mono (by first | omega | (rw [List.length_append]; omega))) (EX.perm p1 (EX.conv (fun _ h => h.tail) ?_))))))
  exact EX.again ((v46, h ++ xs, bits ++ storedBits false ps43 xs)) (⟨hI1.snoc (by rw [Nat.zero_add]; exact .stored ps43_l ps43_m (by omega) hxb), by show (h ++ xs).length ≤ _; rw [List.length_append]; omega, by show (bits ++ storedBits false ps43 xs).length ≤ 9 * (h ++ xs).length; rw [List.length_append, List.length_append, storedBits_length]; omega⟩) (by show 73000 - (h ++ xs).length < 73000 - h.length; rw [List.length_append]; omega) (.refl _) (.cons m0 (.sl 4 4 rfl))
 refine CT.sub .u1 (CT.exit (EX.then_exit (EX.then_exit (EX.out (EX.q (TL.val (r_asg .c) (TL.e (CT.seq (CT.q (TL.m m3 (TL.perm p2 (TL.call (r_call ce_39 (.cons T0 (.cons .c .nil))) (fun w hS => t39 b12 5 (0 + (h).length) (by omega) (by omega) hS) ?_))))))))))))
 rintro _ w48 ⟨y48, rfl, y48_l, hS⟩
 refine TW.at hS (TL.val (n_add 1 y48 9223372036854775808 .c T0) (TL.a m0 (TL.b (.hd .u3) (CT.block (CT.nilslc 3 ?_)))))
 refine CT.fold (A' := (Rdr G b12 (0 + (h).length + 1 + 10 * 0))) a1 (Rdr_mono (by omega)) (CT.perm p1 (CT.perm p3 (CT.perm p3 (CT.perm p3 (CT.loop (X := Nat × Value × List It) (fun gx => [(10, (i64 (1 + y48 - gx.1))), (9, gx.2.1), (6, v), (5, (pt b14 0)), (4, (pt b12 0)), (3, (.slice none 0 0)), (2, (.slice none 0 0))]) (fun gx => (slc 3 gx.2.1 ((gx.2.2).length) (itC gx.2.2)) :: slc 1 v ((h).length) ((h).map u8) :: Wr b14 bits :: Rdr G b12 (0 + (h).length + 1 + 10 * gx.1) :: R) (fun gx => gx.1 ≤ 1 + y48 ∧ (gx.2.2).length = gx.1 ∧ ItOk 32768 gx.2.2) (fun gx => 1 + y48 - gx.1) ((0, (.slice none 0 0), ([] : List It))) (⟨Nat.zero_le _, rfl, trivial⟩) (.refl _) (.eq m0 (by first | rfl | (congr 1 <;> omega)) (.sl 1 6 rfl)) ?_)))))
 rintro ⟨k, vi, its⟩ ⟨hI4, hI5, hI6⟩
 replace hI4 : k ≤ 1 + y48 := hI4
 replace hI5 : its.length = k := hI5
 replace hI6 : ItOk 32768 its := hI6
 refine CT.seq (CT.q (TL.m m0 (TL.val (n_gtr ((1 + y48 - k)) 0 T0 .c) (TL.b (.hd .u1) (CT.ifd m0 (fun c51 => ?_) (fun c51 => ?_))))))
 ·
  refine CT.z (EX.seq (CT.seq (CT.block (CT.region (TL.m m1 (TL.m m5 (TL.perm p3 (TL.call (r_call ce_53 (.cons T0 .nil)) (fun w hS => t53 b12 (0 + (h).length + 1 + 10 * k) (by omega) hS) ?_))))))))
  rintro _ w56 ⟨y56, rfl, y56_l, hS⟩
  refine TW.at hS (TL.m m7 (TL.m m8 (TL.call (r_call ce_39 (.cons T0 (.cons .c .nil))) (fun w hS => t39 b12 32768 (0 + (h).length + 1 + 10 * k + 1 + 1) (by omega) (by omega) hS) ?_)))
  rintro _ w59 ⟨y59, rfl, y59_l, hS⟩
  refine TW.at hS (TL.val (n_add 1 y59 9223372036854775808 .c T0) (TL.w (r_buildSlice (k := 5) (e := 3) (cs := #[(.int .i64 32768), (.int .i64 32767), (.int .i64 24577), (.int .i64 24576), (i64 (1 + y59))]) (F := lst [(.int .i64 32768), (.int .i64 32767), (.int .i64 24577), (.int .i64 24576), (i64 (1 + y59))]) (.cons .c (.cons .c (.cons .c (.cons .c (.cons T0 .nil))))) (fun _ => by kernel_rfl) rfl lst_ok) ?_))
  rintro _ w61 ⟨b61, rfl, hS⟩
  refine TW.at hS (TL.perm p1 (TL.perm p1 (TL.call (r_call ce_45 (.cons T4 (.cons T0 .nil))) (fun w hS => t45 b12 b61 [32768, 32767, 24577, 24576, (1 + y59)] (0 + (h).length + 1 + 10 * k + 1 + 1 + 1) (Nat.zero_lt_succ _) (by show _ < _; simp) (by omega) hS) ?_)))
  rintro _ w62 ⟨y62, rfl, y62_m, hS⟩
  refine TW.at hS ?_
  simp only [List.mem_cons, List.not_mem_nil, or_false] at y62_m
  have hy62 : 1 ≤ y62 ∧ y62 ≤ 32768 := by omega
  refine TL.val (r_build (v := (.agg #[(.int .u8 0), (i64 y56), (i64 y62)])) (.cons T6 (.cons T0 .nil)) (fun _ => by kernel_rfl)) (TL.w (r_buildSlice (k := 1) (e := 65) (cs := #[(.int .u8 0), (i64 y56), (i64 y62)]) (F := lst [(.int .u8 0), (i64 y56), (i64 y62)]) (.cons T0 .nil) (fun _ => by kernel_rfl) rfl lst_ok) ?_)
  rintro _ w64 ⟨b64, rfl, hS⟩
  refine TW.at hS (TL.perm p2 (TL.w (r_append (j := 1) (k := (its).length) (ds := [(.int .u8 0), (i64 y56), (i64 y62)]) el_62 Tryz.underlying62 T10 T0 ⟨_, _, rfl⟩ (rdsl m1 rfl rfl) ones3 (by omega) (by omega)) ?_))
  rintro v65 w65 hS
  have ho65 := hS.slc_one
  refine TW.at hS (TL.fold (A' := (slc 3 v65 ((its ++ [It.mat y56 y62]).length) (itC (its ++ [It.mat y56 y62])))) a0 (slc_eq (by rw [List.length_append, List.length_singleton]) itC_mat) ?_)
  refine TL.rm .h13 (TL.a m0 (TL.x (.hd .u12) (EX.bnormal (EX.seq (CT.region (TL.m m1 (TL.val (n_sub ((1 + y48 - k)) 1 9223372036854775808 T0 .c) (TL.rm .h3 (TL.a m0 (TL.x (.hd .u2) (EX.fold (A' := (Rdr G b12 (0 + (h).length + 1 + 10 * (k + 1)))) a2 (Rdr_mono (by first | omega | (rw [List.length_append]; omega))) (EX.perm p1 (EX.conv (fun _ h => h.tail) ?_)))))))))))))
  exact EX.perm p1 (EX.perm p3 (EX.perm p3 (EX.perm p3 (EX.again ((k + 1, v65, its ++ [It.mat y56 y62])) (⟨(show k + 1 ≤ 1 + y48 by omega), (by show (its ++ [_]).length = k + 1; rw [List.length_append, List.length_singleton]; omega), hI6.snoc (x := It.mat y56 y62) ⟨⟨y56_l.1, y56_l.2, hy62.1, by omega, hy62.2⟩, trivial⟩⟩) (by show 1 + y48 - (k + 1) < 1 + y48 - k; omega) (.refl _) (.eq m0 (by first | rfl | (congr 1 <;> omega)) (.sl 1 6 rfl))))))
 refine CT.sub .u1 (CT.exit (EX.then_exit (EX.then_exit (EX.out (EX.seq (CT.cut (X := List Bool) (fun gx => [(10, (i64 (1 + y48 - k))), (9, vi), (6, v), (5, (pt b14 0)), (4, (pt b12 0)), (3, (.slice none 0 0)), (2, (.slice none 0 0))]) (fun gx => (slc 3 vi ((its).length) (itC its)) :: slc 1 v ((h).length) ((h).map u8) :: Wr b14 (bits ++ gx) :: R) (fun gx => IsBlk (0 + bits.length) true h gx (gives h its) ∧ (gx).length ≤ 1000000) ?_ ?_))))))
 ·
  refine CT.seq ?_
  have hh33 : 33000 ≤ h.length := by omega
  have hgl := gives_far hI6 h
  have itok := hI6
  refine CT.region (TL.m m4 (TL.perm p3 (TL.call (r_call ce_39 (.cons T0 (.cons .c .nil))) (fun w hS => t39 b12 2 (0 + (h).length + 1 + 10 * k) (by omega) (by omega) hS) ?_)))
  rintro _ w67 ⟨y67, rfl, y67_l, hS⟩
  refine TW.at hS (TL.val (n_eql y67 0 T0 .c) (TL.b (.hd .u2) (CT.ifd m0 (fun c68 => ?_) (fun c68 => ?_))))
  ·
   refine CT.sub .u1 (CT.region (TL.m m3 (TL.m m2 (TL.perm p1 (TL.perm p3 (TL.call (r_call ce_54 (.cons T1 (.cons T0 (.cons .c .nil)))) (fun w hS => t54' b14 vi its true bits 32768 itok (by omega) (by omega) hS) ?_))))))
   rintro _ w71 ⟨rfl, hd, b1, ls, ds, hhd, hib, hbl, hS⟩
   refine TW.at hS (TL.x .u3 (EX.perm p2 (EX.conv (fun _ h => h.tail) ?_)))
   exact EX.perm p2 (EX.perm p2 (EX.meet (hd ++ (b1 ++ symB ls 256)) (⟨by rw [Nat.zero_add]; exact .huff hhd (ItOk.mono itok (by omega)) hib, by omega⟩) (.refl _) (.sl 0 7 rfl)))
  refine CT.sub .u1 (CT.region (TL.m m3 (TL.m m5 (TL.m m3 (TL.perm p1 (TL.perm p3 (TL.call (r_call ce_55 (.cons T2 (.cons T1 (.cons T0 (.cons .c .nil))))) (fun w hS => t55 b14 b12 vi its true bits (0 + (h).length + 1 + 10 * k + 1) 32768 itok (by omega) (by omega) (by omega) hS) ?_)))))))
  rintro _ w75 ⟨rfl, hd, b1, ls, ds, hhd, hib, hbl, hS⟩
  refine TW.at hS (TL.x .u4 (EX.perm p2 (EX.conv (fun _ h => h.tail) ?_)))
  exact EX.perm p2 (EX.perm p2 (EX.meet (hd ++ (b1 ++ symB ls 256)) (⟨by rw [Nat.zero_add]; exact .huff hhd (ItOk.mono itok (by omega)) hib, by omega⟩) (.refl _) (.sl 0 7 rfl)))
 rintro d ⟨hd1, hd2⟩
 have hh33 : 33000 ≤ h.length := by omega
 have hgl := gives_far hI6 h
 have itok := hI6
 refine CT.seq (CT.perm p2 (CT.wr ?_))
 intro vs
 refine CT.any fm ?_
 refine TA.t 0 rfl (fun G L => r_move T3) (TA.t 1 rfl (fun G L => r_nil T0) (TA.t 2 rfl (fun G L => r_fa (off' := 0) fo_39_0 T0) (TA.t 4 rfl (fun G L => r_move T5) (TA.t 5 rfl (fun G L => r_move T5) (TA.two 3 6 (by kernel_rfl) ?_ ?_)))))
 ·
  refine TO.val rfl (r_ld (v := vs) Tryz.isAgg22 m0 T2 (by decide) rfl) (TA.one 6 (by kernel_rfl) (TO.perm p2 ?_))
  refine TO.perm p3 ?_
  refine TO.call rfl (r_call ce_56 (.cons T2 (.cons T1 .nil))) (fun w hS => t56 v vi h its 32768 itok (by omega) (by omega) (by omega) hS) ?_
  rintro v82 w82 hS
  exact TB.at hS (TA.sub (.hd (.hd (.hd (.hd (.hd (.hd (.hd (.hd (.hd (.hd (.hd (.hd (.hd .u1))))))))))))) (TA.t 7 rfl (fun G L => r_asg T1) (TA.sub (.hd (.hd (.hd (.hd (.hd (.hd (.hd (.hd (.hd (.hd (.hd (.hd (.hd .u1))))))))))))) (TA.t 8 rfl (fun G L => r_asg T1) (TA.done (by kernel_rfl) (EX.sub (.hd (.hd .u7)) (EX.seq (CT.ret (EX.perm p3 (EX.end_ (.inl rfl) (res2 Tryz.results25 m1 m0) (fun _ hS => ⟨vs, v82, bits ++ d, gives h its, rfl, ⟨bits, d, h, rfl, hI1, .inl ⟨rfl, hd1⟩⟩, by omega, by rw [List.length_append]; omega, keep2h hS⟩)))))))))))
 refine TO.perm p2 ?_
 refine TO.perm p3 ?_
 refine TO.call rfl (r_call ce_56 (.cons T1 (.cons T0 .nil))) (fun w hS => t56 v vi h its 32768 itok (by omega) (by omega) (by omega) hS) ?_
 rintro v82 w82 hS
 exact TB.at hS (TA.one 3 (by kernel_rfl) (TO.val rfl (r_ld (v := vs) Tryz.isAgg22 m2 T3 (by decide) rfl) (TA.sub (.hd (.hd (.hd (.hd (.hd (.hd (.hd (.hd (.hd (.hd (.hd (.hd (.hd .u1))))))))))))) (TA.t 7 rfl (fun G L => r_asg T0) (TA.sub (.hd (.hd (.hd (.hd (.hd (.hd (.hd (.hd (.hd (.hd (.hd (.hd (.hd .u1))))))))))))) (TA.t 8 rfl (fun G L => r_asg T2) (TA.done (by kernel_rfl) (EX.sub (.hd (.hd .u7)) (EX.seq (CT.ret (EX.perm p3 (EX.end_ (.inl rfl) (res2 Tryz.results25 m1 m0) (fun _ hS => ⟨vs, v82, bits ++ d, gives h its, rfl, ⟨bits, d, h, rfl, hI1, .inl ⟨rfl, hd1⟩⟩, by omega, by rw [List.length_append]; omega, keep2h hS⟩)))))))))))))
end Go.Eng
namespace Go.Eng
open Go Go.Proofs Go.Infl
theorem exw1 {p : Program} {f : FuncId} {a : Array Value} {w : World} {P : World → Prop} (h : CallsR p f a w (fun v w' => ∃ (c : Nat), v = i64 c ∧ (false = true ∧ c = 1 ∨ false = false ∧ c = 2) ∧ P w')) :
 CallsR p f a w (fun v w' => v = i64 2 ∧ P w') := by
 refine CallsR.mono h ?_
 rintro v w' ⟨c, e, hc, hS⟩
 rcases hc with ⟨h, _⟩ | ⟨_, rfl⟩
 ·
  cases h
 exact ⟨e, hS⟩
theorem exw2 {p : Program} {f : FuncId} {a : Array Value} {w : World} {P : Value → World → Prop} (h : CallsR p f a w (fun v w' => ∃ (v1 : Value) (c : Nat), v = .tuple #[v1, i64 c] ∧ (false = true ∧ c = 1 ∨ false = false ∧ c = 3) ∧ P v1 w')) :
 CallsR p f a w (fun v w' => ∃ (v1 : Value), v = .tuple #[v1, i64 3] ∧ P v1 w') := by
 refine CallsR.mono h ?_
 rintro v w' ⟨v1, c, e, hc, hS⟩
 rcases hc with ⟨h, _⟩ | ⟨_, rfl⟩
 ·
  cases h
 exact ⟨v1, e, hS⟩
theorem exg3 {p : Program} {f : FuncId} {a : Array Value} {w : World} {P : Value → World → Prop} (h : CallsR p f a w (fun v w' => ∃ (v1 : Value) (c u : Nat), v = .tuple #[v1, i64 c, i64 u] ∧ (true = true ∧ c = 1 ∨ true = false ∧ c = 2) ∧ P v1 w')) :
 CallsR p f a w (fun v w' => ∃ (v1 : Value) (u : Nat), v = .tuple #[v1, i64 1, i64 u] ∧ P v1 w') := by
 refine CallsR.mono h ?_
 rintro v w' ⟨v1, c, u, e, hc, hS⟩
 rcases hc with ⟨_, rfl⟩ | ⟨h, _⟩
 ·
  exact ⟨v1, u, e, hS⟩
 cases h
theorem exg2 {p : Program} {f : FuncId} {a : Array Value} {w : World} {P : Value → World → Prop} (h : CallsR p f a w (fun v w' => ∃ (v1 : Value) (c : Nat), v = .tuple #[v1, i64 c] ∧ (true = true ∧ c = 1 ∨ true = false ∧ c = 3) ∧ P v1 w')) :
 CallsR p f a w (fun v w' => ∃ (v1 : Value), v = .tuple #[v1, i64 1] ∧ P v1 w') := by
 refine CallsR.mono h ?_
 rintro v w' ⟨v1, c, e, hc, hS⟩
 rcases hc with ⟨_, rfl⟩ | ⟨h, _⟩
 ·
  exact ⟨v1, e, hS⟩
 cases h
theorem t19 {va vb : Value} {xs ys zs : List Nat} (hp : xs = ys ++ zs) (hl : xs.length < 9223372036854775807) {G : World} {R : List HProp} {w : World} (hS : Sat G w (slc 1 va xs.length (xs.map u8) :: slc 1 vb ys.length (ys.map u8) :: R)) :
 CallsR Tryz.prog 19 #[va, vb] w (fun v w' => v = .bool true ∧ Sat G w' (slc 1 va xs.length (xs.map u8) :: slc 1 vb ys.length (ys.map u8) :: R)) := by
 have hlen := congrArg List.length hp
 rw [List.length_append] at hlen
 refine calls_in (n := 26) [(0, va), (1, vb)] Tryz.func19 rfl rfl hS args2 ?_
 refine CT.q (TL.val (r_asg .c) (TL.e (CT.seq (CT.q (TL.m m2 (TL.val (r_lens Tryz.underlying22 T0 m1) (TL.m m3 (TL.val (r_lens Tryz.underlying22 T0 m0) (TL.val (n_gtr ys.length xs.length T2 T0) (TL.b (.hd .u4) (CT.ifd m0 (fun c10 => ?_) (fun c10 => ?_))))))))))))
 ·
  exfalso; omega
 refine CT.z (EX.seq (CT.seq (CT.q (TL.m m2 (TL.val (r_lens Tryz.underlying22 T0 m1) (TL.val (r_move .c) (TL.b (.hd (.hd .u1)) (CT.block (CT.loop (X := Nat) (fun gx => [(13, (i64 gx)), (12, (i64 ys.length)), (0, va), (1, vb)]) (fun gx => (slc 1 va xs.length (xs.map u8)) :: slc 1 vb ys.length (ys.map u8) :: R) (fun gx => gx ≤ ys.length) (fun gx => ys.length - gx) 0 (Nat.zero_le _) (.refl _) (.cons m0 (.cons m1 (.cons m3 (.cons m4 .nil)))) ?_)))))))))
 rintro k hI
 refine CT.q (TL.val (n_lss k ys.length T0 T1) (TL.e (CT.seq (CT.ifd m0 (fun c14 => ?_) (fun c14 => ?_)))))
 ·
  refine CT.z (EX.seq (CT.seq (CT.block (CT.q (TL.m m0 (TL.a m0 (TL.b (.hd .u1) (CT.seq ?_))))))))
  obtain ⟨x1, hx1⟩ : ∃ x1, ys[k]? = some x1 := ⟨_, List.getElem?_eq_getElem c14⟩
  have hx2 : xs[k]? = some x1 := by rw [hp, List.getElem?_append_left c14]; exact hx1
  refine CT.peek m0 (by omega) ?_
  intro d d_c d_v d_k d_l
  refine CT.peek m1 (by omega) ?_
  intro e e_c e_v e_k e_l
  refine CT.still fm (by kernel_rfl) ?_
  refine TS.m m3 (TS.m m1 (TS.val (r_ia (i := k) (off' := k) Tryz.underlying22 Tryz.sizeOf5 (.te m1 d_v) T0 rfl (by omega) (by omega)) (TS.val (r_lds (u := (u8 x1)) Tryz.isAgg5 m0 d_v T0 (by rw [List.getElem?_map, hx2]; rfl)) ?_)))
  refine TS.m m8 (TS.m m5 (TS.val (r_ia (i := k) (off' := k) Tryz.underlying22 Tryz.sizeOf5 (.te m1 e_v) T0 rfl (by omega) (by omega)) (TS.val (r_lds (u := (u8 x1)) Tryz.isAgg5 m1 e_v T0 (by rw [List.getElem?_map, hx1]; rfl)) ?_)))
  refine TS.val (n_neq x1 x1 T4 T0) (TS.nil (TL.b (.hd .u8) (CT.ifd m0 (fun c24 => ?_) (fun c24 => ?_))))
  ·
   exfalso; omega
  exact CT.z (EX.bnormal (EX.seq (CT.region (TL.val (n_add k 1 9223372036854775808 T1 .c) (TL.rm .h2 (TL.m m0 (TL.x (.hd .u1) (EX.again (k + 1) (by omega) (by omega) (.refl _) (.eq m0 (by first | rfl | (congr 1 <;> omega)) (.sl 2 3 rfl))))))))))
 exact CT.sub .u1 (CT.exit (EX.then_exit (EX.then_exit (EX.out (EX.q (TL.val (r_asg .c) (TL.e (CT.ret (EX.end_ (.inl rfl) (res1 Tryz.results19 m0) (fun _ hS => ⟨rfl, hS⟩))))))))))
theorem t23 {va vb : Value} {xs : List Nat} (hl : xs.length < 9223372036854775807) {G : World} {R : List HProp} {w : World} (hS : Sat G w (slc 1 va xs.length (xs.map u8) :: slc 1 vb xs.length (xs.map u8) :: R)) :
 CallsR Tryz.prog 23 #[va, vb] w (fun v w' => v = .bool true ∧ Sat G w' (slc 1 va xs.length (xs.map u8) :: slc 1 vb xs.length (xs.map u8) :: R)) := by
 refine calls_in (n := 15) [(0, va), (1, vb)] Tryz.func23 rfl rfl hS args2 ?_
 refine CT.q (TL.val (r_asg .c) (TL.q (TL.m m1 (TL.val (r_lens Tryz.underlying22 T0 m0) (TL.m m4 (TL.val (r_lens Tryz.underlying22 T0 m1) (TL.val (n_eql xs.length xs.length T2 T0) (TL.m m0 ?_))))))))
 by_cases g10 : xs.length = xs.length
 ·
  refine TL.sub (.eq m0 (congrArg Value.bool (decide_eq_true g10)) (.eq m1 (congrArg Value.bool (decide_eq_true g10)) (.cons m2 (.cons m3 (.cons m4 (.cons m5 (.cons m6 (.cons m7 (.cons m8 .nil))))))))) (TL.gv m0 (r_move T7) (TL.gv m1 (r_move T9) (TL.perm p1 (TL.perm p1 (TL.gcall m2 (r_call ce_19 (.cons T1 (.cons T0 .nil))) (fun w hS => t19 (ys := xs) (zs := []) (by simp) (by omega) hS) ?_)))))
  rintro _ w13 ⟨rfl, hS⟩
  exact TW.at hS (TL.val (r_pickt T3 T0) (TL.rm .h10 (TL.a m0 (TL.b (.hd .u12) (CT.ret (EX.end_ (.inl rfl) (res1 Tryz.results23 m0) (fun _ hS => ⟨rfl, hS⟩)))))))
 exfalso; omega
theorem t6 {G w : World} {cv : Value} {ea eb : Addr} (hc : CodeOf G cv) (hL : LaidIs G ea eb) (hS : Sat G w []) :
 CallsR Tryz.prog 6 #[cv] w (fun v w' => v = .bool true ∧ Sat G w' []) := by
 have hc0 := hc
 obtain rfl | ⟨b, off, c, xs, rfl, hlc, hxs, hx⟩ := hc0
 ·
  refine calls_in (n := 48) [(0, (.slice none 0 0))] Tryz.func6 rfl rfl hS args1 ?_
  refine CT.q (TL.val (r_asg .c) (TL.e (CT.seq (CT.q (TL.m m1 (TL.val (r_len Tryz.underlying22 T0) (TL.val (show Run _ _ _ _ _ _ (.bool false) from n_gtr 0 2147483647 T0 .c rfl rfl) (TL.b (.hd .u2) (CT.iff_ m0 ?_)))))))))
  refine CT.z (EX.seq (CT.seq (CT.q (TL.m m1 (TL.val (r_len Tryz.underlying22 T0) (TL.val (show Run _ _ _ _ _ _ (.bool false) from n_gtr 0 16777216 T0 .c rfl rfl) (TL.b (.hd .u2) (CT.iff_ m0 ?_))))))))
  refine CT.z (EX.q (TL.m m1 (TL.call (r_call ce_25 (.cons T0 .nil)) (fun w hS => t25 _ hc hS) ?_)))
  rintro _ w18 ⟨v1, v2, bits, h, rfl, hst, hhl, hbl, hS⟩
  refine TW.at hS (TL.m m0 (TL.val (r_ext T0) (TL.val (r_ext T1) (TL.a m1 (TL.a m1 (TL.r (.hd (.hd .u5)) (TL.m m1 (TL.call (r_call ce_21 (.cons T0 (.cons .c .nil))) (fun w hS => exg3 (t21 (B := bits) (st0 := bits) (tail0 := []) (outF := h) (gd := true) (by omega) (List.append_nil _).symm hst (by omega) hS)) ?_))))))))
  rintro _ w23 ⟨r1, u, rfl, hS⟩
  refine TW.at hS (TL.m m0 (TL.val (r_ext T0) (TL.val (r_ext T1) (TL.val (r_ext T2) (TL.a m2 (TL.a m2 (TL.a m2 (TL.r (.tl (.hd (.hd .u6))) (TL.m m3 (TL.perm p1 (TL.call (r_call ce_18 (.cons T0 (.cons .c .nil))) (fun w hS => exg2 (t18 (B := bits) (st := bits) (tail := []) (out := h) (gd := true) hL (by omega) (List.append_nil _).symm hst (by omega) hS)) ?_)))))))))))
  rintro _ w29 ⟨o1, rfl, hS⟩
  refine TW.at hS (TL.m m0 (TL.val (r_ext T0) (TL.val (r_ext T1) (TL.a m1 (TL.a m1 (TL.r (.hd (.hd .u5)) (TL.m m2 (TL.val (show Run _ _ _ _ _ _ (.bool true) from n_eql 1 1 T0 .c rfl rfl) (TL.m m0 (TL.gv m0 (r_move T6) (TL.gv m1 (r_move T8) (TL.perm p3 (TL.perm p3 (TL.gcall m2 (r_call ce_23 (.cons T1 (.cons T0 .nil))) (fun w hS => t23 (xs := h) (by omega) hS) ?_))))))))))))))
  rintro _ w37 ⟨rfl, hS⟩
  refine TW.at hS (TL.val (r_pickt T3 T0) (TL.m m0 (TL.gv m0 (r_move T8) (TL.gv m1 (show Run _ _ _ _ _ _ (.bool true) from n_eql 1 1 T0 .c rfl rfl) (TL.val (r_pickt T2 T0) (TL.m m0 (TL.gv m0 (r_move T13) (TL.gv m1 (r_move T17) (TL.perm p1 (TL.perm p2 (TL.gcall m2 (r_call ce_23 (.cons T1 (.cons T0 .nil))) (fun w hS => t23 (xs := h) (by omega) hS) ?_)))))))))))
  rintro _ w46 ⟨rfl, hS⟩
  exact TW.at hS (TL.val (r_pickt T3 T0) (TL.rm .h22 (TL.a m0 (TL.b (.hd .u21) (CT.ret (EX.end_ (.inl rfl) (res1 Tryz.results6 m0) (fun _ hS => ⟨rfl, hS.nil⟩)))))))
 refine calls_in (n := 48) [(0, (.slice (some ⟨b, off, none⟩) xs.length c))] Tryz.func6 rfl rfl hS args1 ?_
 refine CT.q (TL.val (r_asg .c) (TL.e (CT.seq (CT.q (TL.m m1 (TL.val (r_len Tryz.underlying22 T0) (TL.val (n_gtr xs.length 2147483647 T0 .c) (TL.b (.hd .u2) (CT.ifd m0 (fun c12 => ?_) (fun c12 => ?_))))))))))
 ·
  exact CT.y (TL.rm .here (TL.val (r_asg .c) (TL.e (CT.ret (EX.then_ret (EX.end_ (.inl rfl) (res1 Tryz.results6 m0) (fun _ hS => ⟨rfl, hS.nil⟩)))))))
 refine CT.z (EX.seq (CT.seq (CT.q (TL.m m1 (TL.val (r_len Tryz.underlying22 T0) (TL.val (n_gtr xs.length 16777216 T0 .c) (TL.b (.hd .u2) (CT.ifd m0 (fun c15 => ?_) (fun c15 => ?_)))))))))
 ·
  exact CT.y (TL.rm .here (TL.val (r_asg .c) (TL.e (CT.ret (EX.then_ret (EX.end_ (.inl rfl) (res1 Tryz.results6 m0) (fun _ hS => ⟨rfl, hS.nil⟩)))))))
 refine CT.z (EX.q (TL.m m1 (TL.call (r_call ce_25 (.cons T0 .nil)) (fun w hS => t25 _ hc hS) ?_)))
 rintro _ w18 ⟨v1, v2, bits, h, rfl, hst, hhl, hbl, hS⟩
 refine TW.at hS (TL.m m0 (TL.val (r_ext T0) (TL.val (r_ext T1) (TL.a m1 (TL.a m1 (TL.r (.hd (.hd .u5)) (TL.m m1 (TL.call (r_call ce_21 (.cons T0 (.cons .c .nil))) (fun w hS => exg3 (t21 (B := bits) (st0 := bits) (tail0 := []) (outF := h) (gd := true) (by omega) (List.append_nil _).symm hst (by omega) hS)) ?_))))))))
 rintro _ w23 ⟨r1, u, rfl, hS⟩
 refine TW.at hS (TL.m m0 (TL.val (r_ext T0) (TL.val (r_ext T1) (TL.val (r_ext T2) (TL.a m2 (TL.a m2 (TL.a m2 (TL.r (.tl (.hd (.hd .u6))) (TL.m m3 (TL.perm p1 (TL.call (r_call ce_18 (.cons T0 (.cons .c .nil))) (fun w hS => exg2 (t18 (B := bits) (st := bits) (tail := []) (out := h) (gd := true) hL (by omega) (List.append_nil _).symm hst (by omega) hS)) ?_)))))))))))
 rintro _ w29 ⟨o1, rfl, hS⟩
 refine TW.at hS (TL.m m0 (TL.val (r_ext T0) (TL.val (r_ext T1) (TL.a m1 (TL.a m1 (TL.r (.hd (.hd .u5)) (TL.m m2 (TL.val (show Run _ _ _ _ _ _ (.bool true) from n_eql 1 1 T0 .c rfl rfl) (TL.m m0 (TL.gv m0 (r_move T6) (TL.gv m1 (r_move T8) (TL.perm p3 (TL.perm p3 (TL.gcall m2 (r_call ce_23 (.cons T1 (.cons T0 .nil))) (fun w hS => t23 (xs := h) (by omega) hS) ?_))))))))))))))
 rintro _ w37 ⟨rfl, hS⟩
 refine TW.at hS (TL.val (r_pickt T3 T0) (TL.m m0 (TL.gv m0 (r_move T8) (TL.gv m1 (show Run _ _ _ _ _ _ (.bool true) from n_eql 1 1 T0 .c rfl rfl) (TL.val (r_pickt T2 T0) (TL.m m0 (TL.gv m0 (r_move T13) (TL.gv m1 (r_move T17) (TL.perm p1 (TL.perm p2 (TL.gcall m2 (r_call ce_23 (.cons T1 (.cons T0 .nil))) (fun w hS => t23 (xs := h) (by omega) hS) ?_)))))))))))
 rintro _ w46 ⟨rfl, hS⟩
 exact TW.at hS (TL.val (r_pickt T3 T0) (TL.rm .h22 (TL.a m0 (TL.b (.hd .u21) (CT.ret (EX.end_ (.inl rfl) (res1 Tryz.results6 m0) (fun _ hS => ⟨rfl, hS.nil⟩)))))))
end Go.Eng
