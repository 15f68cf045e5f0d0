/- The walk of a writer. -/
import Derived.Test.YtkpadembffdepaaGreatDoorWa
namespace Go.Eng
open Go Go.Proofs Go.Infl
set_option maxRecDepth 20000


theorem and1 (x : Nat) : (decide (x % 2 = 1)).toNat = x &&& 1 := by
  rw [Nat.and_one_is_mod]
  have : x % 2 = 0 ∨ x % 2 = 1 := by omega
  rcases this with h | h <;> simp [h]
theorem bit_lt (x n : Nat) : (x &&& 1) * 2 ^ (n % 8) < 256 := by
  rw [Nat.and_one_is_mod]
  have h1 : x % 2 ≤ 1 := by omega
  have h2 : 2 ^ (n % 8) ≤ 2 ^ 7 := Nat.pow_le_pow_right (by omega) (by omega)
  have := Nat.mul_le_mul h1 h2
  omega
theorem bit_close {b c x : Nat} {bs : List Bool} {F : Nat → Value} (hl : ((padded bs).map u8).length = (padded bs).length) (hk : (padded bs).length ≤ c) (hF : ∀ j x, ((padded bs).map u8)[j]? = some x → F j = x) :
    ∀ m, blk b c (upd F (bs.length / 8) (u8 (byteAt bs (bs.length / 8) ||| (x &&& 1) * 2 ^ (bs.length % 8)))) m →
      slc 1 (.slice (some ⟨b, 0, none⟩) (padded bs).length c) (pack (bs ++ [decide (x % 2 = 1)])).length ((pack (bs ++ [decide (x % 2 = 1)])).map u8) m := by
  have e := pack_append bs (decide (x % 2 = 1))
  rw [and1] at e
  have h1 : (pack (bs ++ [decide (x % 2 = 1)])).length = (padded bs).length := by rw [e, List.length_set]
  rw [h1, e, List.map_set]
  exact mk_slc1 (by rw [List.length_set]; exact hl) hk (upd_list hF)
theorem t65 (p x : Nat) (bs : List Bool) (hb : bs.length < 1099511627776) (hx : x < 9223372036854775808) {G : World} {R : List HProp} {w : World} (hS : Sat G w ((Wr p bs) :: R)) :
    CallsR Tryz.prog 65 #[(.pointer (some ⟨p, 0, none⟩)), (.int .i64 ((x : Nat) : Int))] w (fun r w' => r = .tuple #[] ∧ Sat G w' (Wr p (bs ++ [decide (x % 2 = 1)]) :: R)) := by
  obtain ⟨v, hS⟩ := hS.wr
  refine calls_in (n := 48) [(0, (.pointer (some ⟨p, 0, none⟩))), (1, (.int .i64 ((x : Nat) : Int)))] Tryz.func65 rfl rfl hS args2 ?_
  refine CT.cut (X := Value) (fun gx => [(0, (.pointer (some ⟨p, 0, none⟩))), (1, (.int .i64 ((x : Nat) : Int)))]) (fun gx => (slc 1 gx ((padded bs).length) ((padded bs).map u8)) :: (blk p 2 (lst [gx, (.int .i64 ((bs.length : Nat) : Int))])) :: R) (fun gx => True) ?_ ?_
  ·
    refine CT.seq ?_
    refine CT.region ?_
    refine TL.val (r_move (.t m0)) ?_
    refine TL.val (r_nil (.t m0)) ?_
    refine TL.val (r_fa (off' := 1) fo_39_1 (.t m0)) ?_
    refine TL.val (r_ld (v := (.int .i64 ((bs.length : Nat) : Int))) Tryz.isAgg3 m0 (.t m0) (by decide) rfl) ?_
    refine TL.val (n_rem (bs.length) (8) (.t m0) .c rfl rfl (by omega)) ?_
    refine TL.val (n_eql ((bs.length % 8)) (0) (.t m0) .c rfl rfl) ?_
    refine TL.sub (.hd (.tl (.tl (.tl (.tl (.tl .refl)))))) ?_
    refine TL.nil ?_
    refine EX.seq ?_
    refine CT.ifd m0 (fun c9 => ?_) (fun c9 => ?_)
    ·
      refine CT.sub (.tl .refl) ?_
      refine CT.region ?_
      refine TL.val (r_move (.t m0)) ?_
      refine TL.val (r_move (.t m1)) ?_
      refine TL.val (r_nil (.t m0)) ?_
      refine TL.val (r_fa (off' := 0) fo_39_0 (.t m0)) ?_
      refine TL.val (r_ld (v := v) Tryz.isAgg22 m0 (.t m0) (by decide) rfl) ?_
      refine TL.w (r_buildSlice (k := 1) (e := 5) (cs := #[(.int .u8 0)]) (F := lst [(.int .u8 0)]) (.cons .c .nil) (fun _ => by kernel_rfl) rfl lst_ok) ?_
      rintro _ w15 ⟨b15, rfl, hS⟩
      refine TW.at hS ?_
      refine TL.perm p2 ?_
      refine TL.w (r_append el_22 Tryz.underlying22 (.t m1) (.t m0) ⟨_, _, rfl⟩ (rdsl m1 rfl rfl) ones1 (by rw [pack_length]; omega) (by rw [pack_length]; omega)) ?_
      intro v16 w16 hS
      have ho := hS.slc_one
      refine TW.at hS ?_
      refine TL.perm p1 ?_
      refine TL.conv (fun _ h => h.tail) ?_
      refine TL.val (r_nil (.t m6)) ?_
      refine TL.val (r_fa (off' := 0) fo_39_0 (.t m0)) ?_
      refine TL.s (r_stl (l' := [v16, (.int .i64 ((bs.length : Nat) : Int))]) Tryz.sizeOf22 a1 (.t m0) (.t m2) (by decide) (hv := ho)) ?_
      refine TL.sub (.tl (.tl (.tl (.tl (.tl (.tl (.tl (.tl (.tl .refl))))))))) ?_
      refine TL.nil ?_
      refine EX.fold (A' := (slc 1 v16 ((padded bs).length) ((padded bs).map u8))) a0 (slc_eq (by rw [padded, if_pos c9]; simp) (by rw [padded, if_pos c9]; simp)) ?_
      exact EX.meet (v16) (trivial) (.refl _) (.cons m0 (.cons m1 .nil))
    ·
      refine CT.sub (.tl .refl) ?_
      refine CT.skip ?_
      refine EX.fold (A' := (slc 1 v ((padded bs).length) ((padded bs).map u8))) a1 (slc_eq (by rw [padded, if_neg c9]) (by rw [padded, if_neg c9])) ?_
      refine EX.perm p1 ?_
      exact EX.meet (v) (trivial) (.refl _) (.cons m0 (.cons m1 .nil))
  ·
    rintro v hI
    show CT _ _ _ [(0, (.pointer (some ⟨p, 0, none⟩))), (1, (.int .i64 ((x : Nat) : Int)))] _ _ ((slc 1 v ((padded bs).length) ((padded bs).map u8)) :: (blk p 2 (lst [v, (.int .i64 ((bs.length : Nat) : Int))])) :: R)
    refine CT.open1 (by rw [padded_length]; omega) ?_
    rintro b b_c b_F rfl b_k b_l b_h
    refine CT.seq ?_
    refine CT.draw 22 fm (by kernel_rfl) ?_
    refine TS.val (r_move (.t m0)) ?_
    refine TS.val (r_nil (.t m0)) ?_
    refine TS.val (r_fa (off' := 0) fo_39_0 (.t m0)) ?_
    refine TS.val (r_ld (v := (.slice (some ⟨b, 0, none⟩) ((padded bs).length) (b_c))) Tryz.isAgg22 m1 (.t m0) (by decide) rfl) ?_
    refine TS.val (r_move (.t m4)) ?_
    refine TS.val (r_nil (.t m0)) ?_
    refine TS.val (r_fa (off' := 1) fo_39_1 (.t m0)) ?_
    refine TS.val (r_ld (v := (.int .i64 ((bs.length : Nat) : Int))) Tryz.isAgg3 m1 (.t m0) (by decide) rfl) ?_
    refine TS.val (n_quo (bs.length) (8) 9223372036854775808 (.t m0) .c rfl rfl (by omega) (by omega)) ?_
    refine TS.val (r_ia (i := (bs.length / 8)) (off' := (bs.length / 8)) Tryz.underlying22 Tryz.sizeOf5 (.t m5) (.t m0) (rfl) (by rw [padded_length]; omega) (by omega)) ?_
    refine TS.val (r_ld (v := (.int .u8 (((byteAt bs (bs.length / 8)) : Nat) : Int))) Tryz.isAgg5 m0 (.t m0) (by rw [padded_length] at b_k; omega) (b_h _ _ (by rw [List.getElem?_map, padded_last]; rfl))) ?_
    refine TS.val (r_move (.t m12)) ?_
    refine TS.val (n_and (x) (1) 9223372036854775808 (.t m0) .c rfl rfl (by omega) (by omega)) ?_
    refine TS.val (n_conv ((x &&& 1)) 256 ⟨_, Tryz.underlying3⟩ Tryz.underlying5 (.t m0) rfl (by have := @Nat.and_le_right x 1; omega)) ?_
    refine TS.val (r_move (.t m14)) ?_
    refine TS.val (r_nil (.t m0)) ?_
    refine TS.val (r_fa (off' := 1) fo_39_1 (.t m0)) ?_
    refine TS.val (r_ld (v := (.int .i64 ((bs.length : Nat) : Int))) Tryz.isAgg3 m1 (.t m0) (by decide) rfl) ?_
    refine TS.val (n_rem (bs.length) (8) (.t m0) .c rfl rfl (by omega)) ?_
    refine TS.val (n_shl ((x &&& 1)) ((bs.length % 8)) 256 (.t m5) (.t m0) rfl rfl (show _ ≤ 8 by omega) (bit_lt x bs.length)) ?_
    refine TS.val (n_or ((byteAt bs (bs.length / 8))) (((x &&& 1) * 2 ^ (bs.length % 8))) 256 (.t m9) (.t m0) rfl rfl (by first | exact byteAt_lt _ _ | exact bit_lt x bs.length) (by first | exact byteAt_lt _ _ | exact bit_lt x bs.length)) ?_
    refine TS.val (r_ia (i := (bs.length / 8)) (off' := (bs.length / 8)) Tryz.underlying22 Tryz.sizeOf5 (.t m17) (.t m12) (rfl) (by rw [padded_length]; omega) (by omega)) ?_
    refine TS.nil ?_
    refine TL.s (r_st (F' := upd b_F (bs.length / 8) (.int .u8 ((((byteAt bs (bs.length / 8)) ||| ((x &&& 1) * 2 ^ (bs.length % 8))) : Nat) : Int))) Tryz.sizeOf5 (rfl) a0 (.t m0) (.t m1) (by rw [padded_length] at b_k; omega)) ?_
    refine TL.sub (.tl (.tl (.tl (.tl (.tl (.tl (.tl (.tl (.tl (.tl (.tl (.tl (.tl (.tl (.tl (.tl (.tl (.tl (.tl (.tl (.tl (.tl (.hd (.tl .refl)))))))))))))))))))))))) ?_
    refine TL.nil ?_
    refine EX.seq ?_
    refine CT.region ?_
    refine TL.val (r_move (.t m0)) ?_
    refine TL.val (r_nil (.t m0)) ?_
    refine TL.val (r_fa (off' := 1) fo_39_1 (.t m0)) ?_
    refine TL.val (r_ld (v := (.int .i64 ((bs.length : Nat) : Int))) Tryz.isAgg3 m1 (.t m0) (by decide) rfl) ?_
    refine TL.val (n_add (bs.length) (1) 9223372036854775808 (.t m0) .c rfl rfl (by omega)) ?_
    refine TL.val (r_nil (.t m4)) ?_
    refine TL.val (r_fa (off' := 1) fo_39_1 (.t m0)) ?_
    refine TL.s (r_stl (l' := [(.slice (some ⟨b, 0, none⟩) ((padded bs).length) (b_c)), (.int .i64 (((bs.length + 1) : Nat) : Int))]) Tryz.sizeOf3 a1 (.t m0) (.t m2) (by decide)) ?_
    refine TL.sub (.tl (.tl (.tl (.tl (.tl (.tl (.tl .refl))))))) ?_
    refine TL.nil ?_
    refine EX.perm p1 ?_
    refine EX.fold (A' := (slc 1 (.slice (some ⟨b, 0, none⟩) ((padded bs).length) (b_c)) ((pack (bs ++ [decide (x % 2 = 1)])).length) ((pack (bs ++ [decide (x % 2 = 1)])).map u8))) a1 (bit_close b_l b_k b_h) ?_
    refine EX.fold (A' := (blk p 2 (lst [(.slice (some ⟨b, 0, none⟩) ((padded bs).length) (b_c)), (.int .i64 (((bs ++ [decide (x % 2 = 1)]).length : Nat) : Int))]))) a0 (blk_eq rfl (by simp only [List.length_append, List.length_singleton])) ?_
    exact EX.end_ (.inr rfl) (res0 Tryz.results65) (fun _ hS => ⟨rfl, Sat.toWr hS⟩)
end Go.Eng
