/- The walks of the reading bit by bit: streams. -/
import Derived.Test.YtkpadembffdepaaGreatDoorSb
namespace Go.Eng
open Go Go.Proofs Go.Infl
set_option maxRecDepth 20000
set_option linter.unusedSimpArgs false
set_option linter.unusedVariables false


/-- The dictionary's bytes, told by an assertion of the list. -/
def DRd (DA : HProp) (dv : Value) (dd : List Nat) : Prop := (dv = .slice none 0 0 ∧ dd = []) ∨ ∃ b off c, dv = .slice (some ⟨b, off, none⟩) dd.length c ∧ ∀ {G w : World} {L : List HProp}, DA ∈ L → Sat G w L → ∀ j x, dd[j]? = some x → w.cell? ⟨b, off + j, none⟩ = some (u8 x)
theorem t48 {p at_ : Nat} {sv dv : Value} {B : List Bool} {out dd h1 : List Nat} {fin : Bool} {b rest : List Bool} {DA : HProp} (hA : B.length < 9223372036854775000) (hb : IsBlk at_ fin (dd ++ out) b h1) (ho : h1.length ≤ dd.length + 131072) (hd : B.drop at_ = b ++ rest) {G : World} {R : List HProp} {w : World} (hS : Sat G w (Sp p sv B at_ dv out (-1) :: DA :: R)) :
    CallsR Tryz.prog 48 #[.pointer (some ⟨p, 0, none⟩)] w (fun v w' => ∃ out', h1 = dd ++ out' ∧ v = .bool fin ∧ Sat G w' (Sp p sv B (at_ + b.length) dv out' (-1) :: DA :: R)) := by
  cases hb with
  | @stored ps xs h1 h2 h3 h4 =>
    simp only [List.length_append] at ho
    exact (t48_s fin ps xs hA h1 h2 h3 h4 (by omega) hd hS).mono fun v w' h => ⟨_, List.append_assoc _ _ _, h.1, h.2⟩
theorem fin2 {G w : World} {A B C D : HProp} {R : List HProp} (h : Sat G w (A :: B :: C :: D :: R)) : Sat G w (C :: B :: R) := (h.tail.perm p2).tail.perm p1
theorem t21 {sv : Value} {B : List Bool} {h : List Nat} (hA : B.length < 1099511627776) (hst : Strm 0 B [] h) (ho : h.length ≤ 131072) {G : World} {R : List HProp} {w : World} (hS : Sat G w ((slc 1 sv ((pack B).length) ((pack B).map u8)) :: R)) :
    CallsR Tryz.prog 21 #[sv, (.slice none 0 0)] w (fun v w' => ∃ v1, v = .tuple #[v1, i64 1, i64 ((B.length + 7) / 8)] ∧ Sat G w' (slc 1 v1 h.length (h.map u8) :: slc 1 sv (pack B).length ((pack B).map u8) :: R)) := by
  refine calls_in (n := 37) [(0, sv), (1, (.slice none 0 0))] Tryz.func21 rfl rfl hS args2 ?_
  refine CT.seq ?_
  refine CT.region ?_
  refine TL.val (r_asg .c) ?_
  refine TL.val (r_asg .c) ?_
  refine TL.val (r_asg .c) ?_
  refine TL.nil ?_
  refine EX.seq ?_
  refine CT.seq ?_
  refine CT.expose (fun w hS => hS.slc_shape m0) ?_
  rintro ⟨-, hsv0⟩
  obtain ⟨sp, sl, sc, hsv⟩ : ∃ p l c, sv = .slice p l c := by rcases hsv0 with ⟨h, _⟩ | ⟨b, c, h, _⟩ <;> exact ⟨_, _, _, h⟩
  refine CT.region ?_
  refine TL.val (r_move (.t m3)) ?_
  refine TL.val (r_move (.t m5)) ?_
  refine TL.val (r_move (.t m6)) ?_
  refine TL.val (r_len Tryz.underlying22 (.t m0)) ?_
  refine TL.val (r_sub (z := ((-32768))) (.t m0) .c (wi (by decide))) ?_
  refine TL.val (show Run _ _ _ _ _ _ (.int .i64 0) from r_max .c (.t m0)) ?_
  refine TL.val (r_slicen Tryz.underlying22 Tryz.sizeOf5 (.t m4) (.so (j := 0) (.t m0) rfl) .no (by first | rfl | simp) (by first | rfl | simp)) ?_
  refine TL.val (r_build (v := (.agg #[sv, (.int .i64 0), (.slice none 0 0), (.slice none 0 0), (.int .i64 ((-1)))])) (.cons (.t m6) (.cons (.t m0) (.cons .c .nil))) (fun _ => by rw [hsv]; kernel_rfl)) ?_
  refine TL.w (r_box (F := lst [sv, (.int .i64 0), (.slice none 0 0), (.slice none 0 0), (.int .i64 ((-1)))]) (.t m0) rfl rfl lst_ok) ?_
  rintro _ w16 ⟨b16, rfl, hS⟩
  refine TW.at hS ?_
  refine TL.val (r_asg (.t m0)) ?_
  refine TL.sub (.hd (.tl (.tl (.tl (.tl (.tl (.tl (.tl (.tl (.tl (.hd (.hd (.hd (.tl (.tl .refl))))))))))))))) ?_
  refine TL.nil ?_
  refine EX.seq ?_
  refine CT.seq ?_
  refine CT.block ?_
  refine CT.conv (fun _ h => h.emp (A := (hpure True)) trivial) ?_
  refine CT.nilslc 1 ?_
  refine CT.perm p3 ?_
  refine CT.perm p3 ?_
  refine CT.conv (fun _ h => Sat.unsp (out := ([] : List Nat)) (at_ := 0) (e := -1) h) ?_
  refine CT.loop (X := Bool × Nat × List Nat) (fun gx => [(7, (.pointer (some ⟨b16, 0, none⟩))), (6, (.int .i64 0)), (5, (.int .i64 0)), (4, (.slice none 0 0))]) (fun gx => (Sp b16 sv (B) (gx.2.1) (.slice none 0 0) (gx.2.2) (cond gx.1 1 (-1))) :: (hpure True) :: R) (fun gx => (gx.1 = false → Strm (gx.2.1) (B.drop (gx.2.1)) (gx.2.2) h) ∧ (gx.1 = true → gx.2.2 = h ∧ B.length ≤ gx.2.1) ∧ (gx.2.1) ≤ B.length) (fun gx => (cond gx.1 0 1) + (B.length - gx.2.1)) ((false, 0, ([] : List Nat))) (⟨fun _ => hst, (fun h => by cases h), Nat.zero_le _⟩) (.refl _) (.cons m0 (.cons m1 (.cons m2 (.cons m3 .nil)))) ?_
  rintro ⟨done, at_, out⟩ ⟨hI1, hI2, hI3⟩
  show CT _ _ _ [(7, (.pointer (some ⟨b16, 0, none⟩))), (6, (.int .i64 0)), (5, (.int .i64 0)), (4, (.slice none 0 0))] _ _ ((Sp b16 sv (B) (at_) (.slice none 0 0) (out) (cond done 1 (-1))) :: (hpure True) :: R)
  replace hI1 : done = false → Strm at_ (B.drop at_) out h := hI1
  replace hI2 : done = true → out = h ∧ B.length ≤ at_ := hI2
  replace hI3 : at_ ≤ B.length := hI3
  refine CT.seq ?_
  refine CT.seq ?_
  refine CT.region ?_
  refine TL.val (r_move (.t m0)) ?_
  refine TL.call (r_call ce_47 (.cons (.t m0) .nil)) (fun w hS => t47 (r := (!done)) (by cases done <;> rfl) hS) ?_
  rintro _ w18 ⟨rfl, hS⟩
  refine TW.at hS ?_
  refine TL.sub (.hd (.tl .refl)) ?_
  refine TL.nil ?_
  refine EX.seq ?_
  refine CT.iff m0 (fun c18 => ?_) (fun c18 => ?_)
  ·
    obtain rfl : done = false := by simpa using c18
    obtain ⟨fin, b, rest, h1, hb1, hb2, hb3, hb4, hb5⟩ := (hI1 rfl).head
    have hb6 := drop_app hb1
    have hb7 := congrArg List.length hb1
    simp only [List.length_drop, List.length_append] at hb7
    have hb8 := hb2.len.2
    refine CT.sub (.tl .refl) ?_
    refine CT.skip ?_
    refine EX.seq ?_
    refine CT.block ?_
    refine CT.seq ?_
    refine CT.region ?_
    refine TL.val (r_move (.t m0)) ?_
    refine TL.perm p1 ?_
    refine TL.perm p1 ?_
    refine TL.call (r_call ce_48 (.cons (.t m0) .nil)) (fun w hS => t48 (dd := []) (b := b) (rest := rest) (by omega) (by simpa using hb2) (by omega) hb1 hS) ?_
    rintro _ w20 ⟨o20, o20_e, rfl, hS⟩
    refine TW.at hS ?_
    refine TL.sub (.hd (.tl .refl)) ?_
    refine TL.nil ?_
    refine EX.seq ?_
    refine CT.iff m0 (fun c20 => ?_) (fun c20 => ?_)
    ·
      obtain ⟨rfl, rfl⟩ := hb4 c20
      refine CT.sub (.tl .refl) ?_
      refine CT.region ?_
      refine TL.val (r_move (.t m0)) ?_
      refine TL.call (r_call ce_49 (.cons (.t m0) (.cons .c .nil))) (fun w hS => t49_1 hS) ?_
      rintro _ w22 ⟨rfl, hS⟩
      refine TW.at hS ?_
      refine TL.sub (.tl (.tl .refl)) ?_
      refine TL.nil ?_
      refine EX.bnormal ?_
      refine EX.fold (A' := (Sp b16 sv (B) (at_ + b.length) (.slice none 0 0) (o20) (cond true 1 (-1)))) a0 (Sp_eq rfl rfl) ?_
      exact EX.again ((true, at_ + b.length, o20)) (⟨(fun h => by cases h), fun _ => ⟨o20_e.symm, by show B.length ≤ at_ + b.length; simp at hb7; omega⟩, by show at_ + b.length ≤ B.length; simp at hb7; omega⟩) (by show 0 + (B.length - (at_ + b.length)) < 1 + (B.length - at_); omega) (.refl _) (.cons m0 (.cons m1 (.cons m2 (.cons m3 .nil))))
    ·
      refine CT.sub (.tl .refl) ?_
      refine CT.skip ?_
      refine EX.bnormal ?_
      refine EX.fold (A' := (Sp b16 sv (B) (at_ + b.length) (.slice none 0 0) (o20) (cond false 1 (-1)))) a0 (Sp_eq rfl rfl) ?_
      exact EX.again ((false, at_ + b.length, o20)) (⟨(fun _ => by show Strm (at_ + b.length) (B.drop (at_ + b.length)) o20 h; rw [hb6]; have := hb5 (by simpa using c20); rw [o20_e] at this; exact this), (fun h => by cases h), by show at_ + b.length ≤ _; omega⟩) (by show 1 + (B.length - (at_ + b.length)) < 1 + (B.length - at_); omega) (.refl _) (.cons m0 (.cons m1 (.cons m2 (.cons m3 .nil))))
  ·
    obtain rfl : done = true := by simpa using c18
    obtain ⟨rfl, hI4⟩ := hI2 rfl
    refine CT.sub (.tl .refl) ?_
    refine CT.exit ?_
    refine EX.then_exit ?_
    refine EX.then_exit ?_
    refine EX.out ?_
    refine EX.seq ?_
    refine CT.seq ?_
    refine CT.sp ?_
    intro ov1
    refine CT.still fm (by kernel_rfl) ?_
    refine TS.val (r_move (.t m0)) ?_
    refine TS.val (r_nil (.t m0)) ?_
    refine TS.val (r_fa (off' := 3) fo_56_3 (.t m0)) ?_
    refine TS.val (r_ld (v := ov1) Tryz.isAgg22 m0 (.t m0) (by decide) rfl) ?_
    refine TS.val (r_move (.t m4)) ?_
    refine TS.val (r_nil (.t m0)) ?_
    refine TS.val (r_fa (off' := 4) fo_56_4 (.t m0)) ?_
    refine TS.val (r_ld (v := (.int .i64 1)) Tryz.isAgg3 m0 (.t m0) (by decide) rfl) ?_
    refine TS.val (r_move (.t m8)) ?_
    refine TS.val (r_nil (.t m0)) ?_
    refine TS.val (r_fa (off' := 1) fo_56_1 (.t m0)) ?_
    refine TS.val (r_ld (v := (.int .i64 ((at_ : Nat) : Int))) Tryz.isAgg3 m0 (.t m0) (by decide) rfl) ?_
    refine TS.val (n_add (at_) (7) 9223372036854775808 (.t m0) .c rfl rfl (by omega)) ?_
    refine TS.val (n_quo ((at_ + 7)) (8) 9223372036854775808 (.t m0) .c rfl rfl (by omega) (by omega)) ?_
    refine TS.rm (.there (.there (.there (.there (.there (.there (.there (.there (.there (.there (.there (.there (.there (.there (.there (.there (.there .here))))))))))))))))) ?_
    refine TS.val (r_asg (.t m10)) ?_
    refine TS.rm (.there (.there (.there (.there (.there (.there (.there (.there (.there (.there (.there (.there (.there (.there (.there (.there (.there .here))))))))))))))))) ?_
    refine TS.val (r_asg (.t m7)) ?_
    refine TS.rm (.there (.there (.there (.there (.there (.there (.there (.there (.there (.there (.there (.there (.there (.there (.there (.there (.there .here))))))))))))))))) ?_
    refine TS.val (r_asg (.t m2)) ?_
    refine TS.nil ?_
    refine TL.sub (.hd (.hd (.hd (.tl (.tl (.tl (.tl (.tl (.tl (.tl (.tl (.tl (.tl (.tl (.tl (.tl (.tl .refl))))))))))))))))) ?_
    refine TL.nil ?_
    refine EX.seq ?_
    refine CT.ret ?_
    exact EX.end_ (.inl rfl) (res3 Tryz.results21 m2 m1 m0) (fun _ hS => ⟨ov1, by rw [show (at_ + 7) / 8 = (B.length + 7) / 8 by rw [show at_ = B.length by omega]]; rfl, fin2 hS⟩)
end Go.Eng
