/- Parts of the proof of the card: Je Jk La -/
import Derived.Test.YtkpadembffdepaaGreatDoorK5
import Derived.Test.YtkpadembffdepaaGreatDoorK4
set_option maxRecDepth 100000
set_option maxHeartbeats 4000000
set_option linter.unusedVariables false
set_option linter.unusedSimpArgs false
namespace Go.Eng
open Go Go.Proofs Go.Infl
theorem or6 {y : Nat} (h : y < 2) : (y ||| 6) = Bool.toNat (decide (y = 1)) + 6 := by
 have : y = 0 ∨ y = 1 := by omega
 rcases this with rfl | rfl <;> rfl
theorem t36 (r p N : Nat) (hN : N < 4294967296) {G : World} {R : List HProp} {w : World} (hS : Sat G w (Rdr G r (N) :: Wr p (([] : List Bool)) :: R)) :
 CallsR Tryz.prog 36 #[(pt r 0), (pt p 0)] w (fun v w' => ∃ (h : List Nat) (b : List Bool), Blks 0 b [] h ∧ h.length ≤ 15480 ∧ b.length ≤ 3221225472 ∧ Sat G w' (slc 1 v h.length (h.map u8) :: Wr p b :: Rdr G r (N + 4294967296) :: R)) := by
 refine calls_in (n := 18) [(0, (pt r 0)), (1, (pt p 0))] Tryz.func36 rfl rfl hS args2 ?_
 refine CT.q (TL.val (r_asg .c) (TL.q (TL.val (r_asg .c) (TL.e (CT.seq (CT.q (TL.m m2 (TL.call (r_call ce_39 (.cons T0 (.cons .c .nil))) (fun w hS => t39 r 3 (N) (by omega) (by omega) hS) ?_))))))))
 rintro _ w8 ⟨y8, rfl, y8_l, hS⟩
 refine TW.at hS (TL.a m0 (TL.b (.hd .u2) (CT.block (CT.nilslc 1 ?_))))
 refine CT.fold (A' := (Rdr G r (N + 1 + 1073741824 * 0))) a1 (Rdr_mono (by first | (show _ ≤ _; omega) | (show _ ≤ N + 1 + 1073741824 * (k + 1); omega))) (CT.perm p1 (CT.perm p2 (CT.perm p2 (CT.loop (X := Nat × Value × List Nat × List Bool) (fun gx => [(6, (i64 (y8 - gx.1))), (5, gx.2.1), (4, (.slice none 0 0)), (0, (pt r 0)), (1, (pt p 0))]) (fun gx => (slc 1 gx.2.1 ((gx.2.2.1).length) ((gx.2.2.1).map u8)) :: Wr p gx.2.2.2 :: Rdr G r (N + 1 + 1073741824 * gx.1) :: R) (fun gx => gx.1 ≤ y8 ∧ Blks 0 gx.2.2.2 [] gx.2.2.1 ∧ (gx.2.2.1).length ≤ gx.1 * 5160 ∧ (gx.2.2.2).length ≤ gx.1 * 1073741824) (fun gx => y8 - gx.1) ((0, (.slice none 0 0), ([] : List Nat), ([] : List Bool))) (⟨Nat.zero_le _, .nil, Nat.zero_le _, Nat.zero_le _⟩) (.refl _) (.eq m0 (by first | rfl | (congr 1 <;> omega)) (.sl 1 4 rfl)) ?_))))
 rintro ⟨k, v, h, bits⟩ ⟨hI1, hI2, hI3, hI4⟩
 replace hI1 : k ≤ y8 := hI1
 replace hI2 : Blks 0 bits [] h := hI2
 replace hI3 : h.length ≤ k * 5160 := hI3
 replace hI4 : bits.length ≤ k * 1073741824 := hI4
 refine CT.seq (CT.q (TL.m m0 (TL.val (n_gtr ((y8 - k)) 0 T0 .c) (TL.b (.hd .u1) (CT.ifd m0 (fun c10 => ?_) (fun c10 => ?_))))))
 ·
  refine CT.z (EX.seq (CT.seq (CT.block (CT.region (TL.m m3 (TL.m m5 (TL.m m3 (TL.perm p2 (TL.perm p2 (TL.perm p2 (TL.call (r_call ce_46 (.cons T2 (.cons T1 (.cons T0 (.cons .c (.cons .c (.cons .c (.cons .c .nil)))))))) (fun w hS => (blkC_3 (most := 20) (by decide)) r p (N + 1 + 1073741824 * k) v h bits false 0 (Nat.zero_le _) (by omega) (by omega) (by omega) hS) ?_)))))))))))
  rintro v16 w16 ⟨h16, d16, h16_b, h16_l, d16_l, hS⟩
  replace h16_b : IsBlk (bits).length false h d16 h16 := h16_b
  replace h16_l : h16.length ≤ (h).length + 258 * 20 := h16_l
  exact TW.at hS (TL.rm .h5 (TL.a m0 (TL.x (.hd .u4) (EX.bnormal (EX.seq (CT.region (TL.m m1 (TL.val (n_sub ((y8 - k)) 1 9223372036854775808 T0 .c) (TL.rm .h3 (TL.a m0 (TL.x (.hd .u2) (EX.fold (A' := (Rdr G r (N + 1 + 1073741824 * (k + 1)))) a2 (Rdr_mono (by first | (show _ ≤ _; omega) | (show _ ≤ N + 1 + 1073741824 * (k + 1); omega))) (EX.again ((k + 1, v16, h16, bits ++ d16)) (⟨by omega, hI2.snoc (by rw [Nat.zero_add]; exact h16_b), by show h16.length ≤ (k + 1) * 5160; rw [Nat.succ_mul]; omega, by show (bits ++ d16).length ≤ (k + 1) * _; rw [List.length_append]; omega⟩) (by show y8 - (k + 1) < y8 - k; omega) (.refl _) (.eq m0 (by first | rfl | (congr 1 <;> omega)) (.sl 1 4 rfl)))))))))))))))
 exact CT.sub .u1 (CT.exit (EX.then_exit (EX.then_exit (EX.out (EX.q (TL.m m1 (TL.rm .h3 (TL.a m0 (TL.b (.hd .u1) (CT.ret (EX.perm p2 (EX.perm p2 (EX.perm p2 (EX.end_ (.inl rfl) (res1 Tryz.results36 m0) (fun _ hS => ⟨h, bits, hI2, by omega, by omega, (hS.perm p2).imp (Rdr_mono (by omega)) |>.perm p2 |>.perm p2⟩)))))))))))))))
theorem t34 {G : World} (cv : Value) (hc : CodeOf G cv) {R : List HProp} {w : World} (hS : Sat G w (R)) :
 CallsR Tryz.prog 34 #[cv] w (fun v w' => ∃ (v1 v2 : Value) (bits : List Bool) (h : List Nat), v = .tuple #[v1, v2] ∧ Strm 0 bits [] (h, false) ∧ h.length ≤ 131072 ∧ bits.length ≤ 8589934592 ∧ Sat G w' (slc 1 v1 (pack bits).length ((pack bits).map u8) :: slc 1 v2 h.length (h.map u8) :: R)) := by
 refine calls_in (n := 32) [(0, cv)] Tryz.func34 rfl rfl hS args1 ?_
 refine CT.q (TL.val (r_asg .c) (TL.val (r_asg .c) (TL.q (TL.m m2 (TL.call (r_call ce_35 (.cons T0 .nil)) (fun w hS => t35 _ hc hS) ?_)))))
 rintro _ w8 ⟨b8, rfl, hS⟩
 refine TW.at hS (TL.a m0 (TL.r (.hd (.tl (.tl (.hd (.hd .u1))))) (TL.val (r_build (v := (.agg #[(.slice none 0 0), (.int .i64 0)])) .nil (fun _ => by kernel_rfl)) (TL.w (r_box (F := lst [(.slice none 0 0), (.int .i64 0)]) T0 rfl rfl lst_ok) ?_))))
 rintro _ w10 ⟨b10, rfl, hS⟩
 refine TW.at hS (TL.a m0 (TL.b (.hd .u2) (CT.seq (CT.conv (fun _ h => h.newWr) ?_))))
 refine CT.region (TL.m m1 (TL.m m1 (TL.perm p1 (TL.call (r_call ce_36 (.cons T1 (.cons T0 .nil))) (fun w hS => t36 b8 b10 0 (by decide) hS) ?_))))
 rintro v13 w13 ⟨h, b, hbk, hhl, hbl, hS⟩
 refine TW.at hS (TL.a m0 (TL.r (.hd .u3) (TL.m m1 (TL.m m3 (TL.perm p2 (TL.call (r_call ce_39 (.cons T0 (.cons .c .nil))) (fun w hS => t39 b8 2 (0 + 4294967296) (by omega) (by omega) hS) ?_))))))
 rintro _ w16 ⟨y16, rfl, y16_l, hS⟩
 refine TW.at hS (TL.val (n_or y16 6 9223372036854775808 T0 .c rfl rfl (by omega) (by omega)) (TL.perm p2 (TL.call (r_call ce_37 (.cons T3 (.cons T0 (.cons .c .nil)))) (fun w hS => t37 b10 ((y16 ||| 6)) 3 b (by (try simp only [List.length_append, nbits_length, cbits_length, bits8_length, List.length_take, List.length_singleton, List.length_nil] at *); omega) (by first | (have := Nat.or_lt_two_pow (n := 3) (x := y16) (y := 6) (by omega) (by decide); omega) | omega) (by omega) hS) ?_)))
 rintro _ w18 ⟨rfl, hS⟩
 refine TW.at hS (TL.r .u5 (TL.m m1 (TL.m m3 (TL.perm p1 (TL.call (r_call ce_39 (.cons T0 (.cons .c .nil))) (fun w hS => t39 b8 256 (0 + 4294967296 + 1) (by omega) (by omega) hS) ?_)))))
 rintro _ w21 ⟨y21, rfl, y21_l, hS⟩
 refine TW.at hS (TL.perm p1 (TL.call (r_call ce_37 (.cons T2 (.cons T0 (.cons .c .nil)))) (fun w hS => t37 b10 y21 8 (b ++ nbits 3 ((y16 ||| 6))) (by (try simp only [List.length_append, nbits_length, cbits_length, bits8_length, List.length_take, List.length_singleton, List.length_nil] at *); omega) (by first | (have := Nat.or_lt_two_pow (n := 3) (x := y16) (y := 6) (by omega) (by decide); omega) | omega) (by omega) hS) ?_))
 rintro _ w22 ⟨rfl, hS⟩
 refine TW.at hS (TL.r .u4 (TL.m m1 (TL.m m3 (TL.perm p1 (TL.call (r_call ce_39 (.cons T0 (.cons .c .nil))) (fun w hS => t39 b8 256 (0 + 4294967296 + 1 + 1) (by omega) (by omega) hS) ?_)))))
 rintro _ w25 ⟨y25, rfl, y25_l, hS⟩
 refine TW.at hS (TL.perm p1 (TL.call (r_call ce_37 (.cons T2 (.cons T0 (.cons .c .nil)))) (fun w hS => t37 b10 y25 8 ((b ++ nbits 3 ((y16 ||| 6))) ++ nbits 8 y21) (by (try simp only [List.length_append, nbits_length, cbits_length, bits8_length, List.length_take, List.length_singleton, List.length_nil] at *); omega) (by first | (have := Nat.or_lt_two_pow (n := 3) (x := y16) (y := 6) (by omega) (by decide); omega) | omega) (by omega) hS) ?_))
 rintro _ w26 ⟨rfl, hS⟩
 refine TW.at hS (TL.b .u4 (CT.seq (CT.fold (A' := (Wr b10 (b ++ (nbits 3 (Bool.toNat (decide (y16 = 1)) + 6) ++ (nbits 8 y21 ++ nbits 8 y25))))) a0 (Wr_eq (by rw [or6 (by omega)]; simp only [List.append_assoc])) (CT.wr ?_))))
 intro vs
 refine CT.region (TL.m m1 (TL.c m0 (TL.f 0 fo_39_0 m0 (TL.val (r_ld (v := vs) Tryz.isAgg22 m0 T0 (by decide) rfl) (TL.m m4 (TL.rm .h9 (TL.a m1 (TL.rm .h9 (TL.a m1 (TL.b (.hd (.hd .u6)) (CT.ret (EX.perm p3 (EX.perm p2 (EX.perm p2 (EX.conv (fun _ h => h.tail) ?_)))))))))))))))
 refine EX.perm p2 (EX.conv (fun _ h => h.tail) ?_)
 exact EX.perm p1 (EX.perm p1 (EX.end_ (.inl rfl) (res2 Tryz.results34 m1 m0) (fun _ hS => ⟨vs, v13, (b ++ (nbits 3 (Bool.toNat (decide (y16 = 1)) + 6) ++ (nbits 8 y21 ++ nbits 8 y25))), h, rfl, ⟨b, _, h, rfl, hbk, .inr ⟨rfl, .type3⟩⟩, by omega, by (try simp only [List.length_append, nbits_length, cbits_length, bits8_length, List.length_take, List.length_singleton, List.length_nil] at *); omega, hS⟩)))
end Go.Eng
namespace Go.Eng
open Go Go.Proofs Go.Infl
def bOwn : List Nat := (List.range 19).map fun i => if i = 16 ∨ i = 18 then 1 else 0
theorem bOwn_get {j : Nat} (h : j < 19) : bOwn.getD j 0 = if j = 16 ∨ j = 18 then 1 else 0 := by
 unfold bOwn
 rw [List.getD_eq_getElem?_getD, List.getElem?_map, List.getElem?_range h]; rfl
theorem b16 : symB bOwn 16 = cbits 1 0 := by decide
theorem b18 : cbits 1 1 = symB bOwn 18 := by decide
theorem b18l : bOwn.getD 18 0 = 1 := by decide
theorem bFull : Full bOwn := by unfold Full; decide
theorem b16ok : LOk bOwn 16 := by unfold LOk; decide
theorem b18ok : LOk bOwn 18 := by unfold LOk; decide
theorem bHd : OwnHd (nbits 5 0 ++ (nbits 5 0 ++ (nbits 4 15 ++ (ordr.take 19).flatMap (fun o => nbits 3 (bOwn.getD o 0))))) bOwn 257 1 :=
 ⟨19, by decide, by decide, by decide, by decide, fun i h1 h2 => by omega, by decide, by decide, by decide, by decide, rfl⟩
inductive Runs18 : Nat → List Bool → Prop
 | zero : Runs18 0 []
 | succ {k v : Nat} {z : List Bool} : Runs18 k z → 120 ≤ v → v < 128 → Runs18 (k + 1) (z ++ (symB bOwn 18 ++ nbits 7 v))
theorem bad_run {pos : Nat} {h : List Nat} {d z rest : List Bool} (hd : (∃ v rest, v < 4 ∧ d = symB bOwn 16 ++ (nbits 2 v ++ rest)) ∨ d = []) (hz : Runs18 2 z) :
 IsBad pos h (nbits 3 5 ++ (nbits 5 0 ++ (nbits 5 0 ++ (nbits 4 15 ++ (ordr.take 19).flatMap (fun o => nbits 3 (bOwn.getD o 0))))) ++ (d ++ (z ++ rest))) h := by
 rw [List.append_assoc]
 rcases hd with ⟨v, r2, hv, rfl⟩ | rfl
 ·
  have := IsBad.run (pos := pos) (h := h) (f := true) (rest := r2 ++ (z ++ rest)) bHd bFull .nil (by decide) b16ok (v := v) (by show v < 4; exact hv) (.inl ⟨rfl, rfl⟩)
  simp only [List.nil_append] at this
  simp only [List.append_assoc]
  simp only [List.append_assoc] at this
  exact this
 cases hz with
 | @succ _ v2 _ hz h3 h4 =>
  cases hz with
  | @succ _ v1 _ hz h1 h2 =>
   cases hz
   have hr : RunB bOwn [] (symB bOwn 18 ++ (nbits 7 v1 ++ [])) (rnExp [] 18 v1) := .cons b18ok h2 (fun h => absurd h (by decide)) .nil
   have l1 : (rnExp [] 18 v1).length = 11 + v1 := by rw [rnExp_length]; show 0 + (11 + v1) = _; omega
   have l2 : (rnExp (rnExp [] 18 v1) 18 v2).length = 11 + v1 + (11 + v2) := by rw [rnExp_length, l1]; rfl
   have := IsBad.run (pos := pos) (h := h) (f := true) (rest := rest) bHd bFull hr (by omega) b18ok (v := v2) h4 (.inr ⟨fun h => absurd h (by decide), by omega⟩)
   simp only [List.append_assoc, List.nil_append] at this ⊢
   exact this
theorem t16 {G : World} (cv : Value) (hc : CodeOf G cv) {R : List HProp} {w : World} (hS : Sat G w (R)) :
 CallsR Tryz.prog 16 #[cv] w (fun v w' => ∃ (v1 v2 : Value) (bits : List Bool) (h : List Nat), v = .tuple #[v1, v2] ∧ Strm 0 bits [] (h, false) ∧ h.length ≤ 131072 ∧ bits.length ≤ 8589934592 ∧ Sat G w' (slc 1 v1 (pack bits).length ((pack bits).map u8) :: slc 1 v2 h.length (h.map u8) :: R)) := by
 refine calls_in (n := 75) [(0, cv)] Tryz.func16 rfl rfl hS args1 ?_
 refine CT.q (TL.val (r_asg .c) (TL.val (r_asg .c) (TL.q (TL.m m2 (TL.call (r_call ce_35 (.cons T0 .nil)) (fun w hS => t35 _ hc hS) ?_)))))
 rintro _ w12 ⟨b12, rfl, hS⟩
 refine TW.at hS (TL.a m0 (TL.r (.hd (.tl (.tl (.hd (.hd .u1))))) (TL.val (r_build (v := (.agg #[(.slice none 0 0), (.int .i64 0)])) .nil (fun _ => by kernel_rfl)) (TL.w (r_box (F := lst [(.slice none 0 0), (.int .i64 0)]) T0 rfl rfl lst_ok) ?_))))
 rintro _ w14 ⟨b14, rfl, hS⟩
 refine TW.at hS (TL.a m0 (TL.b (.hd .u2) (CT.seq (CT.conv (fun _ h => h.newWr) ?_))))
 refine CT.region (TL.m m1 (TL.m m1 (TL.perm p1 (TL.call (r_call ce_36 (.cons T1 (.cons T0 .nil))) (fun w hS => t36 b12 b14 0 (by decide) hS) ?_))))
 rintro v17 w17 ⟨h, b, hbk, hhl, hbl, hS⟩
 refine TW.at hS (TL.a m0 (TL.r (.hd .u3) (TL.m m1 (TL.perm p1 (TL.call (r_call ce_37 (.cons T0 (.cons .c (.cons .c .nil)))) (fun w hS => t37 b14 5 3 b (by (try simp only [List.length_append, nbits_length, cbits_length, bits8_length, List.length_take, List.length_singleton, List.length_nil] at *); omega) (by omega) (by omega) hS) ?_)))))
 rintro _ w19 ⟨rfl, hS⟩
 refine TW.at hS (TL.r .u2 (TL.m m1 (TL.call (r_call ce_37 (.cons T0 (.cons .c (.cons .c .nil)))) (fun w hS => t37 b14 0 5 (b ++ nbits 3 5) (by (try simp only [List.length_append, nbits_length, cbits_length, bits8_length, List.length_take, List.length_singleton, List.length_nil] at *); omega) (by omega) (by omega) hS) ?_)))
 rintro _ w21 ⟨rfl, hS⟩
 refine TW.at hS (TL.r .u2 (TL.m m1 (TL.call (r_call ce_37 (.cons T0 (.cons .c (.cons .c .nil)))) (fun w hS => t37 b14 0 5 ((b ++ nbits 3 5) ++ nbits 5 0) (by (try simp only [List.length_append, nbits_length, cbits_length, bits8_length, List.length_take, List.length_singleton, List.length_nil] at *); omega) (by omega) (by omega) hS) ?_)))
 rintro _ w23 ⟨rfl, hS⟩
 refine TW.at hS (TL.r .u2 (TL.m m1 (TL.call (r_call ce_37 (.cons T0 (.cons .c (.cons .c .nil)))) (fun w hS => t37 b14 15 4 (((b ++ nbits 3 5) ++ nbits 5 0) ++ nbits 5 0) (by (try simp only [List.length_append, nbits_length, cbits_length, bits8_length, List.length_take, List.length_singleton, List.length_nil] at *); omega) (by omega) (by omega) hS) ?_)))
 rintro _ w25 ⟨rfl, hS⟩
 refine TW.at hS (TL.b .u2 (CT.seq (CT.q (TL.call (r_call ce_38 .nil) (fun w hS => t38 hS) ?_))))
 rintro _ w26 ⟨ob26, rfl, hS⟩
 refine TW.at hS (TL.val (r_len Tryz.underlying42 T0) (TL.val (r_move .c) (TL.e (CT.block (CT.perm p3 (CT.perm p2 (CT.perm p3 (CT.loop (X := Nat × List Bool) (fun gx => [(28, (i64 gx.1)), (27, (.int .i64 19)), (26, (.slice (some ⟨ob26, 0, none⟩) 19 19)), (6, v17), (5, (pt b14 0)), (4, (pt b12 0)), (3, (.slice none 0 0)), (2, (.slice none 0 0))]) (fun gx => (slc 1 v17 h.length (h.map u8)) :: Wr b14 gx.2 :: Rdr G b12 (0 + 4294967296) :: blk ob26 19 (fun j => i64 (ordr.getD j 0)) :: R) (fun gx => gx.1 ≤ 19 ∧ gx.2 = b ++ (nbits 3 5 ++ (nbits 5 0 ++ (nbits 5 0 ++ (nbits 4 15 ++ (ordr.take gx.1).flatMap (fun o => nbits 3 (bOwn.getD o 0))))))) (fun gx => 19 - gx.1) ((0, (((b ++ nbits 3 5) ++ nbits 5 0) ++ nbits 5 0) ++ nbits 4 15)) (⟨Nat.zero_le _, by simp only [List.append_assoc, List.take_zero, List.flatMap_nil, List.append_nil]⟩) (.refl _) (.sl 0 8 rfl) ?_))))))))
 rintro ⟨k, x⟩ ⟨hI1, hx⟩
 replace hI1 : k ≤ 19 := hI1
 replace hx : x = b ++ (nbits 3 5 ++ (nbits 5 0 ++ (nbits 5 0 ++ (nbits 4 15 ++ (ordr.take k).flatMap (fun o => nbits 3 (bOwn.getD o 0)))))) := hx
 have hxl : x.length = b.length + 17 + 3 * k := by rw [hx]; simp only [List.length_append, nbits_length, flat3_lengthb, List.length_take]; have : ordr.length = 19 := rfl; omega
 refine CT.q (TL.val (n_lss k 19 T0 T1) (TL.e (CT.seq (CT.ifd m0 (fun c29 => ?_) (fun c29 => ?_)))))
 ·
  refine CT.z (EX.seq (CT.seq (CT.block (CT.q (TL.val (r_ia (i := k) (off' := k) Tryz.underlying42 Tryz.sizeOf3 T2 T0 rfl (by omega) (by omega)) (TL.val (r_ld (v := (i64 (ordr.getD k 0))) Tryz.isAgg3 m3 T0 (by omega) rfl) (TL.a m0 (TL.r (.hd .u2) (TL.val (r_asg .c) (TL.e (CT.cut (X := Nat) (fun gx => [(9, (i64 gx)), (28, (i64 k)), (27, (.int .i64 19)), (26, (.slice (some ⟨ob26, 0, none⟩) 19 19)), (6, v17), (5, (pt b14 0)), (4, (pt b12 0)), (3, (.slice none 0 0)), (2, (.slice none 0 0))]) (fun gx => (slc 1 v17 h.length (h.map u8)) :: Wr b14 x :: Rdr G b12 (0 + 4294967296) :: blk ob26 19 (fun j => i64 (ordr.getD j 0)) :: R) (fun gx => gx = bOwn.getD (ordr.getD k 0) 0) ?_ ?_)))))))))))
  ·
   refine CT.q (TL.m m1 (TL.val (n_eql ((ordr.getD k 0)) 16 T0 .c) (TL.m m0 ?_)))
   by_cases g34 : (ordr.getD k 0) = 16
   ·
    refine TL.sub (.eq m0 (congrArg Value.bool (decide_eq_true g34)) (.eq m1 (congrArg Value.bool (decide_eq_true g34)) (.cons m2 (.cons m3 (.cons m4 (.cons m5 (.cons m6 (.cons m7 (.cons m8 (.cons m9 (.cons m10 (.cons m11 (.cons m12 .nil))))))))))))) (TL.gn m0 (TL.gn m0 (TL.val (r_pickt T0 .c) (TL.b (.hd .u3) (CT.ift m0 ?_)))))
    exact CT.sub .u1 (CT.region (TL.rm .here (TL.val (r_asg .c) (TL.nil (EX.meet 1 (by rw [bOwn_get (ordr_lt k (by omega))]; first | (rw [if_pos (by omega)]; done) | (rw [if_neg (by omega)]; done)) (.refl _) (.cons m0 (.sl 2 8 rfl)))))))
   refine TL.sub (.eq m0 (congrArg Value.bool (decide_eq_false g34)) (.eq m1 (congrArg Value.bool (decide_eq_false g34)) (.cons m2 (.cons m3 (.cons m4 (.cons m5 (.cons m6 (.cons m7 (.cons m8 (.cons m9 (.cons m10 (.cons m11 (.cons m12 .nil))))))))))))) (TL.gv m0 (r_move T4) (TL.gv m1 (n_eql ((ordr.getD k 0)) 18 T0 .c) (TL.val (r_pickf T2 T0) (TL.b (.hd .u5) (CT.ifd m0 (fun c37 => ?_) (fun c37 => ?_))))))
   ·
    exact CT.sub .u1 (CT.region (TL.rm .here (TL.val (r_asg .c) (TL.nil (EX.meet 1 (by rw [bOwn_get (ordr_lt k (by omega))]; first | (rw [if_pos (by omega)]; done) | (rw [if_neg (by omega)]; done)) (.refl _) (.cons m0 (.sl 2 8 rfl)))))))
   exact CT.z (EX.meet 0 (by rw [bOwn_get (ordr_lt k (by omega))]; first | (rw [if_pos (by omega)]; done) | (rw [if_neg (by omega)]; done)) (.refl _) (.cons m0 (.sl 2 8 rfl)))
  rintro n hn
  have hn7 : n ≤ 1 := by rw [hn, bOwn_get (ordr_lt k (by omega))]; split <;> omega
  refine CT.region (TL.m m5 (TL.m m1 (TL.perm p1 (TL.call (r_call ce_37 (.cons T1 (.cons T0 (.cons .c .nil)))) (fun w hS => t37 b14 n 3 x (by (try simp only [List.length_append, nbits_length, cbits_length, bits8_length, List.length_take, List.length_singleton, List.length_nil] at *); omega) (by omega) (by omega) hS) ?_))))
  rintro _ w40 ⟨rfl, hS⟩
  exact TW.at hS (TL.x .u3 (EX.bnormal (EX.seq (CT.region (TL.val (n_add k 1 9223372036854775808 T1 .c) (TL.rm .h2 (TL.m m0 (TL.x (.hd .u1) (EX.perm p3 (EX.perm p3 (EX.perm p2 (EX.perm p3 (EX.again ((k + 1, x ++ nbits 3 n)) (⟨(show k + 1 ≤ 19 by omega), (by show x ++ nbits 3 n = b ++ (nbits 3 5 ++ (nbits 5 0 ++ (nbits 5 0 ++ (nbits 4 15 ++ (ordr.take (k + 1)).flatMap (fun o => nbits 3 (bOwn.getD o 0)))))); rw [hx, hn, List.take_add_one, getD_get (show k < ordr.length by show k < 19; omega)]; simp only [Option.toList_some, List.flatMap_append, List.flatMap_cons, List.flatMap_nil, List.append_nil, List.append_assoc])⟩) (by show 19 - (k + 1) < 19 - k; omega) (.refl _) (.eq m0 (by first | rfl | (congr 1 <;> omega)) (.sl 2 7 rfl)))))))))))))))
 refine CT.sub .u1 (CT.exit (EX.then_exit (EX.then_exit (EX.out (EX.q (TL.m m5 (TL.perm p2 (TL.call (r_call ce_39 (.cons T0 (.cons .c .nil))) (fun w hS => t39 b12 2 (0 + 4294967296) (by omega) (by omega) hS) ?_))))))))
 rintro _ w43 ⟨y43, rfl, y43_l, hS⟩
 refine TW.at hS (TL.a m0 (TL.b (.hd .u2) (CT.cut (X := List Bool) (fun gx => [(28, (i64 k)), (27, (.int .i64 19)), (26, (.slice (some ⟨ob26, 0, none⟩) 19 19)), (6, v17), (5, (pt b14 0)), (4, (pt b12 0)), (3, (.slice none 0 0)), (2, (.slice none 0 0))]) (fun gx => (slc 1 v17 h.length (h.map u8)) :: Wr b14 (x ++ gx) :: Rdr G b12 (0 + 4294967296 + 1 + 1) :: R) (fun gx => ((∃ v rest, v < 4 ∧ gx = symB bOwn 16 ++ (nbits 2 v ++ rest)) ∨ gx = []) ∧ (gx).length ≤ 3) ?_ ?_)))
 ·
  refine CT.q (TL.m m0 (TL.val (n_eql y43 0 T0 .c) (TL.b (.hd .u2) (CT.ifd m0 (fun c45 => ?_) (fun c45 => ?_)))))
  ·
   refine CT.y (TL.m m4 (TL.perm p2 (TL.call (r_call ce_40 (.cons T0 (.cons .c (.cons .c .nil)))) (fun w hS => t40 b14 0 1 x (by (try simp only [List.length_append, nbits_length, cbits_length, bits8_length, List.length_take, List.length_singleton, List.length_nil] at *); omega) (by omega) (by omega) hS) ?_)))
   rintro _ w47 ⟨rfl, hS⟩
   refine TW.at hS (TL.b .u2 (CT.region (TL.m m4 (TL.m m6 (TL.perm p1 (TL.call (r_call ce_39 (.cons T0 (.cons .c .nil))) (fun w hS => t39 b12 4 (0 + 4294967296 + 1) (by omega) (by omega) hS) ?_))))))
   rintro _ w50 ⟨y50, rfl, y50_l, hS⟩
   refine TW.at hS (TL.perm p1 (TL.call (r_call ce_37 (.cons T2 (.cons T0 (.cons .c .nil)))) (fun w hS => t37 b14 y50 2 (x ++ cbits 1 0) (by (try simp only [List.length_append, nbits_length, cbits_length, bits8_length, List.length_take, List.length_singleton, List.length_nil] at *); omega) (by omega) (by omega) hS) ?_))
   rintro _ w51 ⟨rfl, hS⟩
   refine TW.at hS (TL.x .u4 (EX.fold (A' := (Wr b14 (x ++ (symB bOwn 16 ++ (nbits 2 y50 ++ []))))) a0 (Wr_eq (by first | (simp only [List.append_assoc, List.append_nil, b16]; done) | (rw [b18]; simp only [List.append_assoc, List.append_nil]; done) | simp only [List.append_assoc, List.append_nil])) (EX.perm p3 (EX.conv (fun _ h => h.tail) ?_))))
   exact EX.perm p1 (EX.perm p1 (EX.perm p2 (EX.meet (symB bOwn 16 ++ (nbits 2 y50 ++ [])) (⟨.inl ⟨y50, [], by omega, rfl⟩, by rw [List.length_append, List.length_append, nbits_length, symB_length]; decide⟩) (.refl _) (.sl 0 8 rfl))))
  refine CT.z (EX.fold (A' := (Wr b14 (x ++ ([])))) a2 (Wr_eq (by first | (simp only [List.append_assoc, List.append_nil, b16]; done) | (rw [b18]; simp only [List.append_assoc, List.append_nil]; done) | simp only [List.append_assoc, List.append_nil])) (EX.fold (A' := (Rdr G b12 (0 + 4294967296 + 1 + 1))) a0 (Rdr_mono (by omega)) (EX.perm p3 (EX.conv (fun _ h => h.tail) ?_))))
  exact EX.perm p2 (EX.perm p2 (EX.meet ([]) (⟨.inr rfl, Nat.zero_le _⟩) (.refl _) (.sl 0 8 rfl)))
 rintro d ⟨hd1, hd2⟩
 refine CT.seq (CT.q (TL.val (r_move .c) (TL.e (CT.block (CT.fold (A' := (Wr b14 (x ++ (d ++ (([] : List Bool)))))) a1 (Wr_eq (by first | (simp only [List.append_assoc, List.append_nil, b16]; done) | (rw [b18]; simp only [List.append_assoc, List.append_nil]; done) | simp only [List.append_assoc, List.append_nil])) (CT.fold (A' := (Rdr G b12 (0 + 4294967296 + 1 + 1 + 0))) a2 (Rdr_mono (by omega)) (CT.loop (X := Nat × List Bool) (fun gx => [(52, (i64 gx.1)), (6, v17), (5, (pt b14 0)), (4, (pt b12 0)), (3, (.slice none 0 0)), (2, (.slice none 0 0))]) (fun gx => (slc 1 v17 h.length (h.map u8)) :: Wr b14 (x ++ (d ++ gx.2)) :: Rdr G b12 (0 + 4294967296 + 1 + 1 + gx.1) :: R) (fun gx => gx.1 ≤ 2 ∧ Runs18 gx.1 gx.2 ∧ (gx.2).length ≤ 8 * gx.1) (fun gx => 2 - gx.1) ((0, ([] : List Bool))) (⟨Nat.zero_le _, .zero, Nat.zero_le _⟩) (.refl _) (.cons m0 (.sl 4 5 rfl)) ?_)))))))
 rintro ⟨k2, z⟩ ⟨hI2, hz, hzl⟩
 replace hI2 : k2 ≤ 2 := hI2
 replace hz : Runs18 k2 z := hz
 replace hzl : z.length ≤ 8 * k2 := hzl
 refine CT.q (TL.val (n_lss k2 2 T0 .c) (TL.e (CT.seq (CT.ifd m0 (fun c53 => ?_) (fun c53 => ?_)))))
 ·
  refine CT.z (EX.seq (CT.seq (CT.block (CT.q (TL.m m2 (TL.perm p1 (TL.call (r_call ce_40 (.cons T0 (.cons .c (.cons .c .nil)))) (fun w hS => t40 b14 1 1 (x ++ (d ++ z)) (by (try simp only [List.length_append, nbits_length, cbits_length, bits8_length, List.length_take, List.length_singleton, List.length_nil] at *); omega) (by omega) (by omega) hS) ?_)))))))
  rintro _ w55 ⟨rfl, hS⟩
  refine TW.at hS (TL.b .u2 (CT.region (TL.m m2 (TL.m m4 (TL.perm p2 (TL.call (r_call ce_39 (.cons T0 (.cons .c .nil))) (fun w hS => t39 b12 8 (0 + 4294967296 + 1 + 1 + k2) (by omega) (by omega) hS) ?_))))))
  rintro _ w58 ⟨y58, rfl, y58_l, hS⟩
  refine TW.at hS (TL.val (n_add 120 y58 9223372036854775808 .c T0) (TL.perm p1 (TL.call (r_call ce_37 (.cons T3 (.cons T0 (.cons .c .nil)))) (fun w hS => t37 b14 ((120 + y58)) 7 ((x ++ (d ++ z)) ++ cbits 1 1) (by (try simp only [List.length_append, nbits_length, cbits_length, bits8_length, List.length_take, List.length_singleton, List.length_nil] at *); omega) (by omega) (by omega) hS) ?_)))
  rintro _ w60 ⟨rfl, hS⟩
  exact TW.at hS (TL.x .u5 (EX.bnormal (EX.seq (CT.region (TL.val (n_add k2 1 9223372036854775808 T0 .c) (TL.rm .h1 (TL.m m0 (TL.x (.hd .u1) (EX.fold (A' := (Wr b14 (x ++ (d ++ (z ++ (symB bOwn 18 ++ nbits 7 (120 + y58))))))) a0 (Wr_eq (by first | (simp only [List.append_assoc, List.append_nil, b16]; done) | (rw [b18]; simp only [List.append_assoc, List.append_nil]; done) | simp only [List.append_assoc, List.append_nil])) (EX.fold (A' := (Rdr G b12 (0 + 4294967296 + 1 + 1 + (k2 + 1)))) a1 (Rdr_mono (by omega)) (EX.perm p1 (EX.perm p1 (EX.perm p2 (EX.again ((k2 + 1, z ++ (symB bOwn 18 ++ nbits 7 (120 + y58)))) (⟨(show k2 + 1 ≤ 2 by omega), .succ hz (by omega) (by omega), (by show (z ++ (symB bOwn 18 ++ nbits 7 (120 + y58))).length ≤ 8 * (k2 + 1); rw [List.length_append, List.length_append, nbits_length, symB_length, b18l]; omega)⟩) (by show 2 - (k2 + 1) < 2 - k2; omega) (.refl _) (.eq m0 (by first | rfl | (congr 1 <;> omega)) (.sl 1 5 rfl))))))))))))))))
 refine CT.sub .u1 (CT.exit (EX.then_exit (EX.then_exit (EX.out (EX.q (TL.m m2 (TL.m m4 (TL.perm p2 (TL.call (r_call ce_39 (.cons T0 (.cons .c .nil))) (fun w hS => t39 b12 256 (0 + 4294967296 + 1 + 1 + k2) (by omega) (by omega) hS) ?_)))))))))
 rintro _ w64 ⟨y64, rfl, y64_l, hS⟩
 refine TW.at hS (TL.perm p2 (TL.call (r_call ce_37 (.cons T2 (.cons T0 (.cons .c .nil)))) (fun w hS => t37 b14 y64 8 (x ++ (d ++ z)) (by (try simp only [List.length_append, nbits_length, cbits_length, bits8_length, List.length_take, List.length_singleton, List.length_nil] at *); omega) (by omega) (by omega) hS) ?_))
 rintro _ w65 ⟨rfl, hS⟩
 refine TW.at hS (TL.r .u4 (TL.m m2 (TL.m m4 (TL.perm p1 (TL.call (r_call ce_39 (.cons T0 (.cons .c .nil))) (fun w hS => t39 b12 256 (0 + 4294967296 + 1 + 1 + k2 + 1) (by omega) (by omega) hS) ?_)))))
 rintro _ w68 ⟨y68, rfl, y68_l, hS⟩
 refine TW.at hS (TL.perm p1 (TL.call (r_call ce_37 (.cons T2 (.cons T0 (.cons .c .nil)))) (fun w hS => t37 b14 y68 8 ((x ++ (d ++ z)) ++ nbits 8 y64) (by (try simp only [List.length_append, nbits_length, cbits_length, bits8_length, List.length_take, List.length_singleton, List.length_nil] at *); omega) (by omega) (by omega) hS) ?_))
 rintro _ w69 ⟨rfl, hS⟩
 refine TW.at hS (TL.b .u4 (CT.seq ?_))
 obtain rfl : k2 = 2 := by omega
 obtain rfl : k = 19 := by omega
 refine CT.fold (A' := (Wr b14 (x ++ (d ++ (z ++ (nbits 8 y64 ++ nbits 8 y68)))))) a0 (Wr_eq (by simp only [List.append_assoc])) (CT.wr ?_)
 intro vs
 refine CT.region (TL.m m2 (TL.c m0 (TL.f 0 fo_39_0 m0 (TL.val (r_ld (v := vs) Tryz.isAgg22 m0 T0 (by decide) rfl) (TL.m m5 (TL.rm .h10 (TL.a m1 (TL.rm .h10 (TL.a m1 (TL.b (.hd (.hd (.tl (.tl (.tl (.tl (.tl (.hd .u1)))))))) (CT.ret (EX.perm p3 (EX.perm p2 (EX.perm p2 (EX.conv (fun _ h => h.tail) ?_)))))))))))))))
 refine EX.perm p2 (EX.conv (fun _ h => h.tail) ?_)
 exact EX.perm p1 (EX.perm p1 (EX.end_ (.inl rfl) (res2 Tryz.results16 m1 m0) (fun _ hS => ⟨vs, v17, (x ++ (d ++ (z ++ (nbits 8 y64 ++ nbits 8 y68)))), h, rfl, by rw [hx, List.append_assoc]; exact ⟨b, _, h, rfl, hbk, .inr ⟨rfl, bad_run hd1 hz⟩⟩, by omega, by (try simp only [List.length_append, nbits_length, cbits_length, bits8_length, List.length_take, List.length_singleton, List.length_nil] at *); omega, hS⟩)))
end Go.Eng
namespace Go.Eng
open Go Go.Proofs Go.Infl
theorem exw1 {p : Program} {f : FuncId} {a : Array Value} {w : World} {P : World → Prop} (h : CallsR p f a w (fun v w' => ∃ (c : Nat), v = i64 c ∧ (false = true ∧ c = 1 ∨ false = false ∧ c = 2) ∧ P w')) :
 CallsR p f a w (fun v w' => v = i64 2 ∧ P w') := by
 refine CallsR.mono h ?_
 rintro v w' ⟨c, e, hc, hS⟩
 rcases hc with ⟨h, _⟩ | ⟨_, rfl⟩
 ·
  cases h
 exact ⟨e, hS⟩
theorem exw2 {p : Program} {f : FuncId} {a : Array Value} {w : World} {P : Value → World → Prop} (h : CallsR p f a w (fun v w' => ∃ (v1 : Value) (c : Nat), v = .tuple #[v1, i64 c] ∧ (false = true ∧ c = 1 ∨ false = false ∧ c = 3) ∧ P v1 w')) :
 CallsR p f a w (fun v w' => ∃ (v1 : Value), v = .tuple #[v1, i64 3] ∧ P v1 w') := by
 refine CallsR.mono h ?_
 rintro v w' ⟨v1, c, e, hc, hS⟩
 rcases hc with ⟨h, _⟩ | ⟨_, rfl⟩
 ·
  cases h
 exact ⟨v1, e, hS⟩
theorem exg3 {p : Program} {f : FuncId} {a : Array Value} {w : World} {P : Value → World → Prop} (h : CallsR p f a w (fun v w' => ∃ (v1 : Value) (c u : Nat), v = .tuple #[v1, i64 c, i64 u] ∧ (true = true ∧ c = 1 ∨ true = false ∧ c = 2) ∧ P v1 w')) :
 CallsR p f a w (fun v w' => ∃ (v1 : Value) (u : Nat), v = .tuple #[v1, i64 1, i64 u] ∧ P v1 w') := by
 refine CallsR.mono h ?_
 rintro v w' ⟨v1, c, u, e, hc, hS⟩
 rcases hc with ⟨_, rfl⟩ | ⟨h, _⟩
 ·
  exact ⟨v1, u, e, hS⟩
 cases h
theorem exg2 {p : Program} {f : FuncId} {a : Array Value} {w : World} {P : Value → World → Prop} (h : CallsR p f a w (fun v w' => ∃ (v1 : Value) (c : Nat), v = .tuple #[v1, i64 c] ∧ (true = true ∧ c = 1 ∨ true = false ∧ c = 3) ∧ P v1 w')) :
 CallsR p f a w (fun v w' => ∃ (v1 : Value), v = .tuple #[v1, i64 1] ∧ P v1 w') := by
 refine CallsR.mono h ?_
 rintro v w' ⟨v1, c, e, hc, hS⟩
 rcases hc with ⟨_, rfl⟩ | ⟨h, _⟩
 ·
  exact ⟨v1, e, hS⟩
 cases h
theorem t19 {va vb : Value} {xs ys zs : List Nat} (hp : xs = ys ++ zs) (hl : xs.length < 9223372036854775807) {G : World} {R : List HProp} {w : World} (hS : Sat G w (slc 1 va xs.length (xs.map u8) :: slc 1 vb ys.length (ys.map u8) :: R)) :
 CallsR Tryz.prog 19 #[va, vb] w (fun v w' => v = .bool true ∧ Sat G w' (slc 1 va xs.length (xs.map u8) :: slc 1 vb ys.length (ys.map u8) :: R)) := by
 have hlen := congrArg List.length hp
 rw [List.length_append] at hlen
 refine calls_in (n := 26) [(0, va), (1, vb)] Tryz.func19 rfl rfl hS args2 ?_
 refine CT.q (TL.val (r_asg .c) (TL.e (CT.seq (CT.q (TL.m m2 (TL.val (r_lens Tryz.underlying22 T0 m1) (TL.m m3 (TL.val (r_lens Tryz.underlying22 T0 m0) (TL.val (n_gtr ys.length xs.length T2 T0) (TL.b (.hd .u4) (CT.ifd m0 (fun c10 => ?_) (fun c10 => ?_))))))))))))
 ·
  exfalso; omega
 refine CT.z (EX.seq (CT.seq (CT.q (TL.m m2 (TL.val (r_lens Tryz.underlying22 T0 m1) (TL.val (r_move .c) (TL.b (.hd (.hd .u1)) (CT.block (CT.loop (X := Nat) (fun gx => [(13, (i64 gx)), (12, (i64 ys.length)), (0, va), (1, vb)]) (fun gx => (slc 1 va xs.length (xs.map u8)) :: slc 1 vb ys.length (ys.map u8) :: R) (fun gx => gx ≤ ys.length) (fun gx => ys.length - gx) 0 (Nat.zero_le _) (.refl _) (.cons m0 (.cons m1 (.cons m3 (.cons m4 .nil)))) ?_)))))))))
 rintro k hI
 refine CT.q (TL.val (n_lss k ys.length T0 T1) (TL.e (CT.seq (CT.ifd m0 (fun c14 => ?_) (fun c14 => ?_)))))
 ·
  refine CT.z (EX.seq (CT.seq (CT.block (CT.q (TL.m m0 (TL.a m0 (TL.b (.hd .u1) (CT.seq ?_))))))))
  obtain ⟨x1, hx1⟩ : ∃ x1, ys[k]? = some x1 := ⟨_, List.getElem?_eq_getElem c14⟩
  have hx2 : xs[k]? = some x1 := by rw [hp, List.getElem?_append_left c14]; exact hx1
  refine CT.peek m0 (by omega) ?_
  intro d d_c d_v d_k d_l
  refine CT.peek m1 (by omega) ?_
  intro e e_c e_v e_k e_l
  refine CT.still fm (by kernel_rfl) ?_
  refine TS.m m3 (TS.m m1 (TS.val (r_ia (i := k) (off' := k) Tryz.underlying22 Tryz.sizeOf5 (.te m1 d_v) T0 rfl (by omega) (by omega)) (TS.val (r_lds (u := (u8 x1)) Tryz.isAgg5 m0 d_v T0 (by rw [List.getElem?_map, hx2]; rfl)) ?_)))
  refine TS.m m8 (TS.m m5 (TS.val (r_ia (i := k) (off' := k) Tryz.underlying22 Tryz.sizeOf5 (.te m1 e_v) T0 rfl (by omega) (by omega)) (TS.val (r_lds (u := (u8 x1)) Tryz.isAgg5 m1 e_v T0 (by rw [List.getElem?_map, hx1]; rfl)) ?_)))
  refine TS.val (n_neq x1 x1 T4 T0) (TS.nil (TL.b (.hd .u8) (CT.ifd m0 (fun c24 => ?_) (fun c24 => ?_))))
  ·
   exfalso; omega
  exact CT.z (EX.bnormal (EX.seq (CT.region (TL.val (n_add k 1 9223372036854775808 T1 .c) (TL.rm .h2 (TL.m m0 (TL.x (.hd .u1) (EX.again (k + 1) (by omega) (by omega) (.refl _) (.eq m0 (by first | rfl | (congr 1 <;> omega)) (.sl 2 3 rfl))))))))))
 exact CT.sub .u1 (CT.exit (EX.then_exit (EX.then_exit (EX.out (EX.q (TL.val (r_asg .c) (TL.e (CT.ret (EX.end_ (.inl rfl) (res1 Tryz.results19 m0) (fun _ hS => ⟨rfl, hS⟩))))))))))
theorem t23 {va vb : Value} {xs : List Nat} (hl : xs.length < 9223372036854775807) {G : World} {R : List HProp} {w : World} (hS : Sat G w (slc 1 va xs.length (xs.map u8) :: slc 1 vb xs.length (xs.map u8) :: R)) :
 CallsR Tryz.prog 23 #[va, vb] w (fun v w' => v = .bool true ∧ Sat G w' (slc 1 va xs.length (xs.map u8) :: slc 1 vb xs.length (xs.map u8) :: R)) := by
 refine calls_in (n := 15) [(0, va), (1, vb)] Tryz.func23 rfl rfl hS args2 ?_
 refine CT.q (TL.val (r_asg .c) (TL.q (TL.m m1 (TL.val (r_lens Tryz.underlying22 T0 m0) (TL.m m4 (TL.val (r_lens Tryz.underlying22 T0 m1) (TL.val (n_eql xs.length xs.length T2 T0) (TL.m m0 ?_))))))))
 by_cases g10 : xs.length = xs.length
 ·
  refine TL.sub (.eq m0 (congrArg Value.bool (decide_eq_true g10)) (.eq m1 (congrArg Value.bool (decide_eq_true g10)) (.cons m2 (.cons m3 (.cons m4 (.cons m5 (.cons m6 (.cons m7 (.cons m8 .nil))))))))) (TL.gv m0 (r_move T7) (TL.gv m1 (r_move T9) (TL.perm p1 (TL.perm p1 (TL.gcall m2 (r_call ce_19 (.cons T1 (.cons T0 .nil))) (fun w hS => t19 (ys := xs) (zs := []) (by simp) (by omega) hS) ?_)))))
  rintro _ w13 ⟨rfl, hS⟩
  exact TW.at hS (TL.val (r_pickt T3 T0) (TL.rm .h10 (TL.a m0 (TL.b (.hd .u12) (CT.ret (EX.end_ (.inl rfl) (res1 Tryz.results23 m0) (fun _ hS => ⟨rfl, hS⟩)))))))
 exfalso; omega
theorem t3 {G w : World} {cv : Value} {ea eb : Addr} (hc : CodeOf G cv) (hL : LaidIs G ea eb) (hS : Sat G w []) :
 CallsR Tryz.prog 3 #[cv] w (fun v w' => v = .bool true ∧ Sat G w' []) := by
 have hc0 := hc
 obtain rfl | ⟨b, off, c, xs, rfl, hlc, hxs, hx⟩ := hc0
 ·
  refine calls_in (n := 37) [(0, (.slice none 0 0))] Tryz.func3 rfl rfl hS args1 ?_
  refine CT.q (TL.val (r_asg .c) (TL.e (CT.seq (CT.q (TL.m m1 (TL.val (r_len Tryz.underlying22 T0) (TL.val (show Run _ _ _ _ _ _ (.bool false) from n_gtr 0 2147483647 T0 .c rfl rfl) (TL.b (.hd .u2) (CT.iff_ m0 ?_)))))))))
  refine CT.z (EX.seq (CT.seq (CT.q (TL.m m1 (TL.val (r_len Tryz.underlying22 T0) (TL.val (show Run _ _ _ _ _ _ (.bool false) from n_gtr 0 16777216 T0 .c rfl rfl) (TL.b (.hd .u2) (CT.iff_ m0 ?_))))))))
  refine CT.z (EX.q (TL.m m1 (TL.call (r_call ce_16 (.cons T0 .nil)) (fun w hS => t16 _ hc hS) ?_)))
  rintro _ w15 ⟨v1, v2, bits, h, rfl, hst, hhl, hbl, hS⟩
  refine TW.at hS (TL.m m0 (TL.val (r_ext T0) (TL.val (r_ext T1) (TL.a m1 (TL.a m1 (TL.b (.hd (.hd .u5)) (CT.seq (CT.q (TL.m m1 (TL.call (r_call ce_17 (.cons T0 .nil)) (fun w hS => exw1 (t17 (B := bits) (st0 := bits) (tail0 := []) (outF := h) (gd := false) (by omega) (List.append_nil _).symm hst (by omega) hS)) ?_))))))))))
  rintro _ w19 ⟨rfl, hS⟩
  refine TW.at hS (TL.val (show Run _ _ _ _ _ _ (.bool false) from n_neq 2 2 T0 .c rfl rfl) (TL.b (.hd .u2) (CT.iff_ m0 ?_)))
  refine CT.z (EX.q (TL.m m1 (TL.call (r_call ce_18 (.cons T0 (.cons .c .nil))) (fun w hS => exw2 (t18 (B := bits) (st := bits) (tail := []) (out := h) (gd := false) hL (by omega) (List.append_nil _).symm hst (by omega) hS)) ?_)))
  rintro _ w23 ⟨o1, rfl, hS⟩
  refine TW.at hS (TL.m m0 (TL.val (r_ext T0) (TL.val (r_ext T1) (TL.a m1 (TL.a m1 (TL.r (.hd (.hd .u5)) (TL.m m0 (TL.val (show Run _ _ _ _ _ _ (.bool true) from n_neq 3 0 T0 .c rfl rfl) (TL.m m0 (TL.gv m0 (r_move T3) (TL.gv m1 (show Run _ _ _ _ _ _ (.bool true) from n_neq 3 1 T0 .c rfl rfl) (TL.val (r_pickt T2 T0) (TL.m m0 (TL.gv m0 (r_move T9) (TL.gv m1 (r_move T9) (TL.perm p2 (TL.gcall m2 (r_call ce_19 (.cons T1 (.cons T0 .nil))) (fun w hS => t19 (ys := h) (zs := []) (List.append_nil _).symm (by omega) hS) ?_)))))))))))))))))
  rintro _ w35 ⟨rfl, hS⟩
  exact TW.at hS (TL.val (r_pickt T3 T0) (TL.rm .h15 (TL.a m0 (TL.b (.hd .u14) (CT.ret (EX.end_ (.inl rfl) (res1 Tryz.results3 m0) (fun _ hS => ⟨rfl, hS.nil⟩)))))))
 refine calls_in (n := 37) [(0, (.slice (some ⟨b, off, none⟩) xs.length c))] Tryz.func3 rfl rfl hS args1 ?_
 refine CT.q (TL.val (r_asg .c) (TL.e (CT.seq (CT.q (TL.m m1 (TL.val (r_len Tryz.underlying22 T0) (TL.val (n_gtr xs.length 2147483647 T0 .c) (TL.b (.hd .u2) (CT.ifd m0 (fun c9 => ?_) (fun c9 => ?_))))))))))
 ·
  exact CT.y (TL.rm .here (TL.val (r_asg .c) (TL.e (CT.ret (EX.then_ret (EX.end_ (.inl rfl) (res1 Tryz.results3 m0) (fun _ hS => ⟨rfl, hS.nil⟩)))))))
 refine CT.z (EX.seq (CT.seq (CT.q (TL.m m1 (TL.val (r_len Tryz.underlying22 T0) (TL.val (n_gtr xs.length 16777216 T0 .c) (TL.b (.hd .u2) (CT.ifd m0 (fun c12 => ?_) (fun c12 => ?_)))))))))
 ·
  exact CT.y (TL.rm .here (TL.val (r_asg .c) (TL.e (CT.ret (EX.then_ret (EX.end_ (.inl rfl) (res1 Tryz.results3 m0) (fun _ hS => ⟨rfl, hS.nil⟩)))))))
 refine CT.z (EX.q (TL.m m1 (TL.call (r_call ce_16 (.cons T0 .nil)) (fun w hS => t16 _ hc hS) ?_)))
 rintro _ w15 ⟨v1, v2, bits, h, rfl, hst, hhl, hbl, hS⟩
 refine TW.at hS (TL.m m0 (TL.val (r_ext T0) (TL.val (r_ext T1) (TL.a m1 (TL.a m1 (TL.b (.hd (.hd .u5)) (CT.seq (CT.q (TL.m m1 (TL.call (r_call ce_17 (.cons T0 .nil)) (fun w hS => exw1 (t17 (B := bits) (st0 := bits) (tail0 := []) (outF := h) (gd := false) (by omega) (List.append_nil _).symm hst (by omega) hS)) ?_))))))))))
 rintro _ w19 ⟨rfl, hS⟩
 refine TW.at hS (TL.val (show Run _ _ _ _ _ _ (.bool false) from n_neq 2 2 T0 .c rfl rfl) (TL.b (.hd .u2) (CT.iff_ m0 ?_)))
 refine CT.z (EX.q (TL.m m1 (TL.call (r_call ce_18 (.cons T0 (.cons .c .nil))) (fun w hS => exw2 (t18 (B := bits) (st := bits) (tail := []) (out := h) (gd := false) hL (by omega) (List.append_nil _).symm hst (by omega) hS)) ?_)))
 rintro _ w23 ⟨o1, rfl, hS⟩
 refine TW.at hS (TL.m m0 (TL.val (r_ext T0) (TL.val (r_ext T1) (TL.a m1 (TL.a m1 (TL.r (.hd (.hd .u5)) (TL.m m0 (TL.val (show Run _ _ _ _ _ _ (.bool true) from n_neq 3 0 T0 .c rfl rfl) (TL.m m0 (TL.gv m0 (r_move T3) (TL.gv m1 (show Run _ _ _ _ _ _ (.bool true) from n_neq 3 1 T0 .c rfl rfl) (TL.val (r_pickt T2 T0) (TL.m m0 (TL.gv m0 (r_move T9) (TL.gv m1 (r_move T9) (TL.perm p2 (TL.gcall m2 (r_call ce_19 (.cons T1 (.cons T0 .nil))) (fun w hS => t19 (ys := h) (zs := []) (List.append_nil _).symm (by omega) hS) ?_)))))))))))))))))
 rintro _ w35 ⟨rfl, hS⟩
 exact TW.at hS (TL.val (r_pickt T3 T0) (TL.rm .h15 (TL.a m0 (TL.b (.hd .u14) (CT.ret (EX.end_ (.inl rfl) (res1 Tryz.results3 m0) (fun _ hS => ⟨rfl, hS.nil⟩)))))))
end Go.Eng
