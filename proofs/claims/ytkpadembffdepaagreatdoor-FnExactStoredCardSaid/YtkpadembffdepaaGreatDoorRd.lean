/- The walks of a reader: streams. -/
import Derived.Test.YtkpadembffdepaaGreatDoorRc
namespace Go.Eng
open Go Go.Proofs Go.Infl
set_option maxRecDepth 20000
set_option linter.unusedSimpArgs false
set_option linter.unusedVariables false


/-- What a block's writing does, of a kind: at most K bytes. -/
def BlkC (how most K : Nat) : Prop := ∀ {G w : World} {R : List HProp} (r p N : Nat) (vo : Value) (h : List Nat) (bs : List Bool) (f : Bool) (be : Int), -(h.length : Int) ≤ be → be ≤ 0 → (∀ x ∈ h, x < 256) → h.length < 1048576 → bs.length < 68719476736 → N < 68719476736 →
    Sat G w (slc 1 vo h.length (h.map u8) :: Wr p bs :: Rdr G r N :: R) →
    CallsR Tryz.prog 46 #[.pointer (some ⟨r, 0, none⟩), .pointer (some ⟨p, 0, none⟩), vo, .int .i64 be, i64 how, i64 most, .bool f] w (fun v w' => ∃ (h' : List Nat) (b : List Bool), IsBlk bs.length f h b h' ∧ h'.length ≤ h.length + K ∧ b.length ≤ 1073741824 ∧ Sat G w' (slc 1 v h'.length (h'.map u8) :: Wr p (bs ++ b) :: Rdr G r (N + 1073741824) :: R))
theorem blkC_0 {most : Nat} (hm : most ≤ 65535) : BlkC 0 most most := fun r p N vo h bs f be _ _ hh hl hb hN hS => t46_0 r p N vo h bs f be most hm hh hl hb hN hS
theorem Sat.newWr {G w : World} {R : List HProp} {p : Nat} (h : Sat G w (Eng.blk p 2 (lst [.slice none 0 0, .int .i64 0]) :: R)) : Sat G w (Wr p [] :: R) :=
  Sat.toWr (v := .slice none 0 0) ((nil_slc 1 h).perm (List.Perm.swap _ _ _))
theorem keep2 {G w : World} {R : List HProp} {A B C : HProp} (h : Sat G w (A :: B :: C :: R)) : Sat G w (A :: B :: R) := ((h.perm p2).tail)
theorem t51 (how blocks most K : Nat) (hB : BlkC how most K) (hK : K ≤ 65536) (hbl : blocks ≤ 7) (r N : Nat) (hN : N < 1073741824) {G : World} {R : List HProp} {w : World} (hS : Sat G w ((Rdr G r (N)) :: R)) :
    CallsR Tryz.prog 51 #[(.pointer (some ⟨r, 0, none⟩)), (.int .i64 ((how : Nat) : Int)), (.int .i64 ((blocks : Nat) : Int)), (.int .i64 ((most : Nat) : Int))] w (fun v w' => ∃ (v1 v2 : Value) (bits : List Bool) (h : List Nat), v = .tuple #[v1, v2] ∧ Strm 0 bits [] h ∧ h.length ≤ 8 * K ∧ bits.length ≤ 8589934592 ∧ Sat G w' (slc 1 v1 (pack bits).length ((pack bits).map u8) :: slc 1 v2 h.length (h.map u8) :: R)) := by
  refine calls_in (n := 39) [(0, (.pointer (some ⟨r, 0, none⟩))), (1, (.int .i64 ((how : Nat) : Int))), (2, (.int .i64 ((blocks : Nat) : Int))), (3, (.int .i64 ((most : Nat) : Int)))] Tryz.func51 rfl rfl hS args4 ?_
  refine CT.seq ?_
  refine CT.region ?_
  refine TL.val (r_asg .c) ?_
  refine TL.val (r_asg .c) ?_
  refine TL.nil ?_
  refine EX.seq ?_
  refine CT.seq ?_
  refine CT.region ?_
  refine TL.val (r_build (v := (.agg #[(.slice none 0 0), (.int .i64 0)])) .nil (fun _ => by kernel_rfl)) ?_
  refine TL.w (r_box (F := lst [(.slice none 0 0), (.int .i64 0)]) (.t m0) rfl rfl lst_ok) ?_
  rintro _ w14 ⟨b14, rfl, hS⟩
  refine TW.at hS ?_
  refine TL.val (r_asg (.t m0)) ?_
  refine TL.sub (.hd (.tl (.tl .refl))) ?_
  refine TL.nil ?_
  refine EX.seq ?_
  refine CT.seq ?_
  refine CT.region ?_
  refine TL.val (r_asg .c) ?_
  refine TL.nil ?_
  refine EX.seq ?_
  refine CT.seq ?_
  refine CT.seq ?_
  refine CT.region ?_
  refine TL.val (r_move (.t m4)) ?_
  refine TL.val (r_move (.t m7)) ?_
  refine TL.perm p1 ?_
  refine TL.call (r_call ce_39 (.cons (.t m1) (.cons (.t m0) .nil))) (fun w hS => t39 r (blocks) (N) (by omega) (by omega) hS) ?_
  rintro _ w17 ⟨y17, rfl, y17_l, hS⟩
  refine TW.at hS ?_
  refine TL.val (r_asg (.t m0)) ?_
  refine TL.sub (.hd (.tl (.tl (.tl (.hd (.hd (.hd (.hd (.hd (.hd (.tl .refl))))))))))) ?_
  refine TL.nil ?_
  refine EX.seq ?_
  refine CT.block ?_
  refine CT.nilslc 1 ?_
  refine CT.perm p2 ?_
  refine CT.conv (fun _ h => h.newWr) ?_
  refine CT.fold (A' := (Rdr G r (N + 1 + 1073741824 * (0)))) a2 (Rdr_mono (by first | (show _ ≤ _; omega) | (show _ ≤ N + 1 + 1073741824 * (k + 1); omega))) ?_
  refine CT.perm p2 ?_
  refine CT.perm p1 ?_
  refine CT.perm p2 ?_
  refine CT.loop (X := Nat × Value × List Nat × List Bool) (fun gx => [(12, (.int .i64 (((y17 - (gx.1)) : Nat) : Int))), (11, gx.2.1), (10, (.pointer (some ⟨b14, 0, none⟩))), (9, (.slice none 0 0)), (8, (.slice none 0 0)), (0, (.pointer (some ⟨r, 0, none⟩))), (1, (.int .i64 ((how : Nat) : Int))), (3, (.int .i64 ((most : Nat) : Int)))]) (fun gx => (slc 1 gx.2.1 ((gx.2.2.1).length) ((gx.2.2.1).map u8)) :: (Wr b14 (gx.2.2.2)) :: (Rdr G r (N + 1 + 1073741824 * (gx.1))) :: R) (fun gx => gx.1 ≤ y17 ∧ Blks 0 (gx.2.2.2) [] (gx.2.2.1) ∧ (gx.2.2.1).length ≤ (gx.1) * K ∧ (gx.2.2.2).length ≤ (gx.1) * 1073741824) (fun gx => y17 - gx.1) ((0, (.slice none 0 0), ([] : List Nat), ([] : List Bool))) (⟨Nat.zero_le _, .nil, Nat.zero_le _, Nat.zero_le _⟩) (.refl _) (.eq m0 (by first | rfl | (congr 1; omega)) (.cons m1 (.cons m2 (.cons m3 (.cons m4 (.cons m5 (.cons m6 (.cons m7 .nil)))))))) ?_
  rintro ⟨k, v, h, bits⟩ ⟨hI1, hI2, hI3, hI4⟩
  show CT _ _ _ [(12, (.int .i64 (((y17 - (k)) : Nat) : Int))), (11, v), (10, (.pointer (some ⟨b14, 0, none⟩))), (9, (.slice none 0 0)), (8, (.slice none 0 0)), (0, (.pointer (some ⟨r, 0, none⟩))), (1, (.int .i64 ((how : Nat) : Int))), (3, (.int .i64 ((most : Nat) : Int)))] _ _ ((slc 1 v ((h).length) ((h).map u8)) :: (Wr b14 (bits)) :: (Rdr G r (N + 1 + 1073741824 * (k))) :: R)
  replace hI1 : k ≤ y17 := hI1
  replace hI2 : Blks 0 bits [] h := hI2
  replace hI3 : h.length ≤ k * K := hI3
  replace hI4 : bits.length ≤ k * 1073741824 := hI4
  have hI5 : k * K ≤ 8 * K := Nat.mul_le_mul_right _ (by omega)
  refine CT.seq ?_
  refine CT.seq ?_
  refine CT.region ?_
  refine TL.val (r_move (.t m0)) ?_
  refine TL.val (n_gtr ((y17 - (k))) (0) (.t m0) .c rfl rfl) ?_
  refine TL.sub (.hd (.tl .refl)) ?_
  refine TL.nil ?_
  refine EX.seq ?_
  refine CT.ifd m0 (fun c19 => ?_) (fun c19 => ?_)
  ·
    refine CT.sub (.tl .refl) ?_
    refine CT.skip ?_
    refine EX.seq ?_
    refine CT.seq ?_
    refine CT.block ?_
    refine CT.region ?_
    refine TL.val (r_move (.t m5)) ?_
    refine TL.val (r_move (.t m3)) ?_
    refine TL.val (r_move (.t m3)) ?_
    refine TL.val (r_move (.t m9)) ?_
    refine TL.val (r_move (.t m11)) ?_
    refine TL.perm p2 ?_
    refine TL.perm p2 ?_
    refine TL.perm p2 ?_
    refine TL.call (r_call ce_46 (.cons (.t m4) (.cons (.t m3) (.cons (.t m2) (.cons .c (.cons (.t m1) (.cons (.t m0) (.cons .c .nil)))))))) (fun w hS => hB r b14 (N + 1 + 1073741824 * (k)) v (h) (bits) false 0 (by omega) (by omega) (hI2.bytes (by intro x hx; cases hx)) (by omega) (by omega) (by omega) hS) ?_
    rintro v27 w27 ⟨h27, d27, h27_b, h27_l, d27_l, hS⟩
    refine TW.at hS ?_
    refine TL.rm (.there (.there (.there (.there (.there (.there (.there .here))))))) ?_
    refine TL.val (r_asg (.t m0)) ?_
    refine TL.sub (.hd (.tl (.tl (.tl (.tl (.tl (.tl .refl))))))) ?_
    refine TL.nil ?_
    refine EX.bnormal ?_
    refine EX.seq ?_
    refine CT.region ?_
    refine TL.val (r_move (.t m1)) ?_
    refine TL.val (n_sub ((y17 - (k))) (1) 9223372036854775808 (.t m0) .c rfl rfl (by omega) (by omega)) ?_
    refine TL.rm (.there (.there (.there .here))) ?_
    refine TL.val (r_asg (.t m0)) ?_
    refine TL.sub (.hd (.tl (.tl .refl))) ?_
    refine TL.nil ?_
    refine EX.fold (A' := (Rdr G r (N + 1 + 1073741824 * (k + 1)))) a2 (Rdr_mono (by first | (show _ ≤ _; omega) | (show _ ≤ N + 1 + 1073741824 * (k + 1); omega))) ?_
    exact EX.again ((k + 1, v27, h27, bits ++ d27)) (⟨by omega, hI2.snoc (by rw [Nat.zero_add]; exact h27_b), by show h27.length ≤ (k + 1) * K; rw [Nat.succ_mul]; omega, by show (bits ++ d27).length ≤ (k + 1) * _; rw [List.length_append]; omega⟩) (by show y17 - (k + 1) < y17 - k; omega) (.refl _) (.eq m0 (by first | rfl | (congr 1; omega)) (.cons m1 (.cons m2 (.cons m3 (.cons m4 (.cons m5 (.cons m6 (.cons m7 .nil))))))))
  ·
    refine CT.sub (.tl .refl) ?_
    refine CT.exit ?_
    refine EX.then_exit ?_
    refine EX.then_exit ?_
    refine EX.out ?_
    refine EX.seq ?_
    refine CT.seq ?_
    refine CT.region ?_
    refine TL.val (r_move (.t m5)) ?_
    refine TL.val (r_move (.t m3)) ?_
    refine TL.val (r_move (.t m3)) ?_
    refine TL.val (r_move (.t m9)) ?_
    refine TL.val (r_move (.t m11)) ?_
    refine TL.perm p2 ?_
    refine TL.perm p2 ?_
    refine TL.perm p2 ?_
    refine TL.call (r_call ce_46 (.cons (.t m4) (.cons (.t m3) (.cons (.t m2) (.cons .c (.cons (.t m1) (.cons (.t m0) (.cons .c .nil)))))))) (fun w hS => hB r b14 (N + 1 + 1073741824 * (k)) v (h) (bits) true 0 (by omega) (by omega) (hI2.bytes (by intro x hx; cases hx)) (by omega) (by omega) (by omega) hS) ?_
    rintro v33 w33 ⟨h33, d33, h33_b, h33_l, d33_l, hS⟩
    refine TW.at hS ?_
    refine TL.rm (.there (.there (.there (.there (.there (.there (.there .here))))))) ?_
    refine TL.val (r_asg (.t m0)) ?_
    refine TL.sub (.hd (.tl (.tl (.tl (.tl (.tl (.tl .refl))))))) ?_
    refine TL.nil ?_
    refine EX.seq ?_
    refine CT.seq ?_
    refine CT.perm p1 ?_
    refine CT.wr ?_
    intro vs
    refine CT.region ?_
    refine TL.val (r_move (.t m2)) ?_
    refine TL.val (r_nil (.t m0)) ?_
    refine TL.val (r_fa (off' := 0) fo_39_0 (.t m0)) ?_
    refine TL.val (r_ld (v := vs) Tryz.isAgg22 m0 (.t m0) (by decide) rfl) ?_
    refine TL.val (r_move (.t m4)) ?_
    refine TL.rm (.there (.there (.there (.there (.there (.there (.there (.there (.there .here))))))))) ?_
    refine TL.val (r_asg (.t m1)) ?_
    refine TL.rm (.there (.there (.there (.there (.there (.there (.there (.there (.there .here))))))))) ?_
    refine TL.val (r_asg (.t m1)) ?_
    refine TL.sub (.hd (.hd (.tl (.tl (.tl (.tl (.tl .refl))))))) ?_
    refine TL.nil ?_
    refine EX.seq ?_
    refine CT.ret ?_
    exact EX.end_ (.inl rfl) (res2 Tryz.results51 m1 m0) (fun _ hS => ⟨vs, v33, bits ++ d33, h33, rfl, ⟨bits, d33, h, rfl, hI2, by rw [Nat.zero_add]; exact h33_b⟩, by have := Nat.mul_le_mul_right K (show k + 1 ≤ 8 by omega); rw [Nat.succ_mul] at this; omega, by rw [List.length_append]; omega, keep2 hS.tail⟩)
theorem t29 {G : World} (cv : Value) (hc : CodeOf G cv) {R : List HProp} {w : World} (hS : Sat G w (R)) :
    CallsR Tryz.prog 29 #[cv] w (fun v w' => ∃ (v1 v2 : Value) (bits : List Bool) (h : List Nat), v = .tuple #[v1, v2] ∧ Strm 0 bits [] h ∧ h.length ≤ 65536 ∧ bits.length ≤ 8589934592 ∧ Sat G w' (slc 1 v1 (pack bits).length ((pack bits).map u8) :: slc 1 v2 h.length (h.map u8) :: R)) := by
  refine calls_in (n := 9) [(0, cv)] Tryz.func29 rfl rfl hS args1 ?_
  refine CT.seq ?_
  refine CT.region ?_
  refine TL.val (r_asg .c) ?_
  refine TL.val (r_asg .c) ?_
  refine TL.nil ?_
  refine EX.seq ?_
  refine CT.seq ?_
  refine CT.region ?_
  refine TL.val (r_move (.t m2)) ?_
  refine TL.call (r_call ce_35 (.cons (.t m0) .nil)) (fun w hS => t35 _ hc hS) ?_
  rintro _ w5 ⟨b5, rfl, hS⟩
  refine TW.at hS ?_
  refine TL.call (r_call ce_51 (.cons (.t m0) (.cons .c (.cons .c (.cons .c .nil))))) (fun w hS => t51 0 5 60 60 (blkC_0 (by decide)) (by omega) (by omega) b5 (0) (by omega) hS) ?_
  rintro _ w6 ⟨v1, v2, bits, h, rfl, hst, hhl, hbl, hS⟩
  refine TW.at hS ?_
  refine TL.val (r_ext (.t m0)) ?_
  refine TL.val (r_ext (.t m1)) ?_
  refine TL.rm (.there (.there (.there (.there (.there (.there .here)))))) ?_
  refine TL.val (r_asg (.t m1)) ?_
  refine TL.rm (.there (.there (.there (.there (.there (.there .here)))))) ?_
  refine TL.val (r_asg (.t m1)) ?_
  refine TL.sub (.hd (.hd (.tl (.tl (.tl (.tl (.tl (.tl .refl)))))))) ?_
  refine TL.nil ?_
  refine EX.seq ?_
  refine CT.ret ?_
  exact EX.end_ (.inl rfl) (res2 Tryz.results29 m1 m0) (fun _ hS => ⟨v1, v2, bits, h, rfl, hst, by omega, hbl, hS⟩)
end Go.Eng
