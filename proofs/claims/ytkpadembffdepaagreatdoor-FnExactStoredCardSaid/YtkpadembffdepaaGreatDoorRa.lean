/- The walk of a reader of numbers. -/
import Derived.Test.YtkpadembffdepaaGreatDoorWc
namespace Go.Eng
open Go Go.Proofs Go.Infl
set_option maxRecDepth 20000
set_option linter.unusedSimpArgs false
set_option linter.unusedVariables false


/-- What a reader of numbers reads: at most 3000 bytes, all of memory that was there at the begin. -/
def Src (G : World) (bv : Value) : Prop := ∃ xs : List Nat, (∀ x ∈ xs, x < 256) ∧ xs.length ≤ 3000 ∧
  ((bv = .slice none 0 0 ∧ xs = []) ∨ ∃ b off c, bv = .slice (some ⟨b, off, none⟩) xs.length c ∧ ∀ j x, xs[j]? = some x → G.cell? ⟨b, off + j, none⟩ = some (u8 x))
/-- A reader behind the pointer to block r, that has read at most N times. -/
def Rdr (G : World) (r N : Nat) : HProp := hex fun x : Value × Nat => sep [hpure (Src G x.1 ∧ x.2 ≤ N), blk r 2 (lst [x.1, i64 x.2])]
theorem Sat.rdr {G w : World} {R : List HProp} {r N : Nat} (h : Sat G w (Rdr G r N :: R)) : ∃ bv q, Src G bv ∧ q ≤ N ∧ Sat G w (Eng.blk r 2 (lst [bv, i64 q]) :: R) := by
  obtain ⟨⟨bv, q⟩, h⟩ := h.ex
  obtain ⟨⟨h1, h2⟩, h3⟩ := (Sat.unsep h).pure
  exact ⟨bv, q, h1, h2, h3⟩
theorem Sat.toRdr {G w : World} {R : List HProp} {r N q : Nat} {bv : Value} (h1 : Src G bv) (h2 : q ≤ N) (h : Sat G w (Eng.blk r 2 (lst [bv, i64 q]) :: R)) : Sat G w (Rdr G r N :: R) := by
  have h3 : Sat G w (hpure (Src G bv ∧ q ≤ N) :: Eng.blk r 2 (lst [bv, i64 q]) :: R) := h.emp ⟨h1, h2⟩
  exact (Sat.resep (Ls := [hpure (Src G bv ∧ q ≤ N), Eng.blk r 2 (lst [bv, i64 q])]) h3).imp fun m hm => ⟨(bv, q), hm⟩
theorem Rdr_mono {G : World} {r N N' : Nat} (h : N ≤ N') : ∀ m, Rdr G r N m → Rdr G r N' m := by
  rintro m ⟨x, m1, ⟨h1, h2⟩, h3, h4⟩
  exact ⟨x, m1, ⟨h1, Nat.le_trans h2 h⟩, h3, h4⟩
theorem src_get {xs : List Nat} (h : ∀ x ∈ xs, x < 256) {j : Nat} (hj : j < xs.length) : ∃ x, xs[j]? = some x ∧ x < 256 := ⟨xs[j], List.getElem?_eq_getElem hj, h _ (List.getElem_mem hj)⟩
theorem t39 (r n N : Nat) (hn : n < 1099511627776) (hN : N < 1099511627776) {G : World} {R : List HProp} {w : World} (hS : Sat G w ((Rdr G r N) :: R)) :
    CallsR Tryz.prog 39 #[(.pointer (some ⟨r, 0, none⟩)), (.int .i64 ((n : Nat) : Int))] w (fun v w' => ∃ y : Nat, v = i64 y ∧ y < max n 1 ∧ Sat G w' (Rdr G r (N + 1) :: R)) := by
  obtain ⟨bv, q, hsrc, hq, hS⟩ := hS.rdr
  have hsrc0 := hsrc
  obtain ⟨xs, hxs, hxl, ⟨rfl, rfl⟩ | ⟨b, off, c, rfl, hb⟩⟩ := hsrc0
  ·
    refine calls_in (n := 92) [(0, (.pointer (some ⟨r, 0, none⟩))), (1, (.int .i64 ((n : Nat) : Int)))] Tryz.func39 rfl rfl hS args2 ?_
    refine CT.seq ?_
    refine CT.region ?_
    refine TL.val (r_asg .c) ?_
    refine TL.nil ?_
    refine EX.seq ?_
    refine CT.seq ?_
    refine CT.region ?_
    refine TL.val (r_move (.t m1)) ?_
    refine TL.val (r_nil (.t m0)) ?_
    refine TL.val (r_fa (off' := 1) fo_78_1 (.t m0)) ?_
    refine TL.val (r_ld (v := (.int .i64 ((q : Nat) : Int))) Tryz.isAgg3 m0 (.t m0) (by decide) rfl) ?_
    refine TL.val (r_asg (.t m0)) ?_
    refine TL.sub (.hd (.tl (.tl (.tl (.tl .refl))))) ?_
    refine TL.nil ?_
    refine EX.seq ?_
    refine CT.seq ?_
    refine CT.region ?_
    refine TL.val (r_move (.t m2)) ?_
    refine TL.val (r_nil (.t m0)) ?_
    refine TL.val (r_fa (off' := 1) fo_78_1 (.t m0)) ?_
    refine TL.val (r_ld (v := (.int .i64 ((q : Nat) : Int))) Tryz.isAgg3 m0 (.t m0) (by decide) rfl) ?_
    refine TL.val (n_add (q) (1) 9223372036854775808 (.t m0) .c rfl rfl (by omega)) ?_
    refine TL.val (r_nil (.t m4)) ?_
    refine TL.val (r_fa (off' := 1) fo_78_1 (.t m0)) ?_
    refine TL.s (r_stl (l' := [(.slice none 0 0), (.int .i64 (((q + 1) : Nat) : Int))]) Tryz.sizeOf3 a0 (.t m0) (.t m2) (by decide)) ?_
    refine TL.sub (.tl (.tl (.tl (.tl (.tl (.tl (.tl .refl))))))) ?_
    refine TL.nil ?_
    refine EX.seq ?_
    refine CT.seq ?_
    refine CT.seq ?_
    refine CT.region ?_
    refine TL.val (r_move (.t m3)) ?_
    refine TL.val (n_lss (n) (1) (.t m0) .c rfl rfl) ?_
    refine TL.val (r_move (.t m0)) ?_
    by_cases g20 : n < 1
    ·
      refine TL.sub (ρ' := [(20, (.bool true)), (19, (.bool true)), (18, (.int .i64 ((n : Nat) : Int))), (5, (.int .i64 ((q : Nat) : Int))), (4, (.int .i64 0)), (0, (.pointer (some ⟨r, 0, none⟩))), (1, (.int .i64 ((n : Nat) : Int)))]) (.eq m0 (congrArg Value.bool (decide_eq_true g20)) (.eq m1 (congrArg Value.bool (decide_eq_true g20)) (.cons m2 (.cons m3 (.cons m4 (.cons m5 (.cons m6 .nil))))))) ?_
      refine TL.gn m0 ?_
      refine TL.gn m0 ?_
      refine TL.gn m0 ?_
      refine TL.gn m0 ?_
      refine TL.gn m0 ?_
      refine TL.gn m0 ?_
      refine TL.val (r_pickt (.t m0) .c) ?_
      refine TL.sub (.hd (.tl (.tl (.tl .refl)))) ?_
      refine TL.nil ?_
      refine EX.seq ?_
      refine CT.ift m0 ?_
      refine CT.sub (.tl .refl) ?_
      refine CT.seq ?_
      refine CT.region ?_
      refine TL.rm (.there .here) ?_
      refine TL.val (r_asg .c) ?_
      refine TL.nil ?_
      refine EX.seq ?_
      refine CT.ret ?_
      refine EX.then_ret ?_
      exact EX.end_ (.inl rfl) (res1 Tryz.results39 m0) (fun _ hS => ⟨0, rfl, by omega, Sat.toRdr hsrc (by omega) hS⟩)
    ·
      refine TL.sub (ρ' := [(20, (.bool false)), (19, (.bool false)), (18, (.int .i64 ((n : Nat) : Int))), (5, (.int .i64 ((q : Nat) : Int))), (4, (.int .i64 0)), (0, (.pointer (some ⟨r, 0, none⟩))), (1, (.int .i64 ((n : Nat) : Int)))]) (.eq m0 (congrArg Value.bool (decide_eq_false g20)) (.eq m1 (congrArg Value.bool (decide_eq_false g20)) (.cons m2 (.cons m3 (.cons m4 (.cons m5 (.cons m6 .nil))))))) ?_
      refine TL.gv m0 (r_move (.t m5)) ?_
      refine TL.gv m1 (r_nil (.t m0)) ?_
      refine TL.gv m2 (r_fa (off' := 0) fo_78_0 (.t m0)) ?_
      refine TL.gv m3 (r_ld (v := (.slice none 0 0)) Tryz.isAgg22 m0 (.t m0) (by decide) rfl) ?_
      refine TL.gv m4 (r_len Tryz.underlying22 (.t m0)) ?_
      refine TL.gv m5 (show Run _ _ _ _ _ _ (.bool true) from n_eql (0) (0) (.t m0) .c rfl rfl) ?_
      refine TL.val (r_pickf (.t m6) (.t m0)) ?_
      refine TL.sub (.hd (.tl (.tl (.tl (.tl (.tl (.tl (.tl (.tl (.tl .refl)))))))))) ?_
      refine TL.nil ?_
      refine EX.seq ?_
      refine CT.ift m0 ?_
      refine CT.sub (.tl .refl) ?_
      refine CT.seq ?_
      refine CT.region ?_
      refine TL.rm (.there .here) ?_
      refine TL.val (r_asg .c) ?_
      refine TL.nil ?_
      refine EX.seq ?_
      refine CT.ret ?_
      refine EX.then_ret ?_
      exact EX.end_ (.inl rfl) (res1 Tryz.results39 m0) (fun _ hS => ⟨0, rfl, by omega, Sat.toRdr hsrc (by omega) hS⟩)
  ·
    refine calls_in (n := 92) [(0, (.pointer (some ⟨r, 0, none⟩))), (1, (.int .i64 ((n : Nat) : Int)))] Tryz.func39 rfl rfl hS args2 ?_
    refine CT.seq ?_
    refine CT.region ?_
    refine TL.val (r_asg .c) ?_
    refine TL.nil ?_
    refine EX.seq ?_
    refine CT.seq ?_
    refine CT.region ?_
    refine TL.val (r_move (.t m1)) ?_
    refine TL.val (r_nil (.t m0)) ?_
    refine TL.val (r_fa (off' := 1) fo_78_1 (.t m0)) ?_
    refine TL.val (r_ld (v := (.int .i64 ((q : Nat) : Int))) Tryz.isAgg3 m0 (.t m0) (by decide) rfl) ?_
    refine TL.val (r_asg (.t m0)) ?_
    refine TL.sub (.hd (.tl (.tl (.tl (.tl .refl))))) ?_
    refine TL.nil ?_
    refine EX.seq ?_
    refine CT.seq ?_
    refine CT.region ?_
    refine TL.val (r_move (.t m2)) ?_
    refine TL.val (r_nil (.t m0)) ?_
    refine TL.val (r_fa (off' := 1) fo_78_1 (.t m0)) ?_
    refine TL.val (r_ld (v := (.int .i64 ((q : Nat) : Int))) Tryz.isAgg3 m0 (.t m0) (by decide) rfl) ?_
    refine TL.val (n_add (q) (1) 9223372036854775808 (.t m0) .c rfl rfl (by omega)) ?_
    refine TL.val (r_nil (.t m4)) ?_
    refine TL.val (r_fa (off' := 1) fo_78_1 (.t m0)) ?_
    refine TL.s (r_stl (l' := [(.slice (some ⟨b, off, none⟩) (xs.length) (c)), (.int .i64 (((q + 1) : Nat) : Int))]) Tryz.sizeOf3 a0 (.t m0) (.t m2) (by decide)) ?_
    refine TL.sub (.tl (.tl (.tl (.tl (.tl (.tl (.tl .refl))))))) ?_
    refine TL.nil ?_
    refine EX.seq ?_
    refine CT.seq ?_
    refine CT.seq ?_
    refine CT.region ?_
    refine TL.val (r_move (.t m3)) ?_
    refine TL.val (n_lss (n) (1) (.t m0) .c rfl rfl) ?_
    refine TL.val (r_move (.t m0)) ?_
    by_cases g20 : n < 1
    ·
      refine TL.sub (ρ' := [(20, (.bool true)), (19, (.bool true)), (18, (.int .i64 ((n : Nat) : Int))), (5, (.int .i64 ((q : Nat) : Int))), (4, (.int .i64 0)), (0, (.pointer (some ⟨r, 0, none⟩))), (1, (.int .i64 ((n : Nat) : Int)))]) (.eq m0 (congrArg Value.bool (decide_eq_true g20)) (.eq m1 (congrArg Value.bool (decide_eq_true g20)) (.cons m2 (.cons m3 (.cons m4 (.cons m5 (.cons m6 .nil))))))) ?_
      refine TL.gn m0 ?_
      refine TL.gn m0 ?_
      refine TL.gn m0 ?_
      refine TL.gn m0 ?_
      refine TL.gn m0 ?_
      refine TL.gn m0 ?_
      refine TL.val (r_pickt (.t m0) .c) ?_
      refine TL.sub (.hd (.tl (.tl (.tl .refl)))) ?_
      refine TL.nil ?_
      refine EX.seq ?_
      refine CT.ift m0 ?_
      refine CT.sub (.tl .refl) ?_
      refine CT.seq ?_
      refine CT.region ?_
      refine TL.rm (.there .here) ?_
      refine TL.val (r_asg .c) ?_
      refine TL.nil ?_
      refine EX.seq ?_
      refine CT.ret ?_
      refine EX.then_ret ?_
      exact EX.end_ (.inl rfl) (res1 Tryz.results39 m0) (fun _ hS => ⟨0, rfl, by omega, Sat.toRdr hsrc (by omega) hS⟩)
    ·
      refine TL.sub (ρ' := [(20, (.bool false)), (19, (.bool false)), (18, (.int .i64 ((n : Nat) : Int))), (5, (.int .i64 ((q : Nat) : Int))), (4, (.int .i64 0)), (0, (.pointer (some ⟨r, 0, none⟩))), (1, (.int .i64 ((n : Nat) : Int)))]) (.eq m0 (congrArg Value.bool (decide_eq_false g20)) (.eq m1 (congrArg Value.bool (decide_eq_false g20)) (.cons m2 (.cons m3 (.cons m4 (.cons m5 (.cons m6 .nil))))))) ?_
      refine TL.gv m0 (r_move (.t m5)) ?_
      refine TL.gv m1 (r_nil (.t m0)) ?_
      refine TL.gv m2 (r_fa (off' := 0) fo_78_0 (.t m0)) ?_
      refine TL.gv m3 (r_ld (v := (.slice (some ⟨b, off, none⟩) (xs.length) (c))) Tryz.isAgg22 m0 (.t m0) (by decide) rfl) ?_
      refine TL.gv m4 (r_len Tryz.underlying22 (.t m0)) ?_
      refine TL.gv m5 (n_eql (xs.length) (0) (.t m0) .c rfl rfl) ?_
      refine TL.val (r_pickf (.t m6) (.t m0)) ?_
      refine TL.sub (.hd (.tl (.tl (.tl (.tl (.tl (.tl (.tl (.tl (.tl .refl)))))))))) ?_
      refine TL.nil ?_
      refine EX.seq ?_
      refine CT.ifd m0 (fun c27 => ?_) (fun c27 => ?_)
      ·
        refine CT.sub (.tl .refl) ?_
        refine CT.seq ?_
        refine CT.region ?_
        refine TL.rm (.there .here) ?_
        refine TL.val (r_asg .c) ?_
        refine TL.nil ?_
        refine EX.seq ?_
        refine CT.ret ?_
        refine EX.then_ret ?_
        exact EX.end_ (.inl rfl) (res1 Tryz.results39 m0) (fun _ hS => ⟨0, rfl, by omega, Sat.toRdr hsrc (by omega) hS⟩)
      ·
        refine CT.sub (.tl .refl) ?_
        refine CT.skip ?_
        refine EX.seq ?_
        refine CT.seq ?_
        have hdv := Nat.div_le_self q xs.length
        obtain ⟨x1, hx1, hl1⟩ := src_get hxs (Nat.mod_lt q (show 0 < xs.length by omega))
        refine CT.still fm (by kernel_rfl) ?_
        refine TS.val (r_move (.t m2)) ?_
        refine TS.val (r_nil (.t m0)) ?_
        refine TS.val (r_fa (off' := 0) fo_78_0 (.t m0)) ?_
        refine TS.val (r_ld (v := (.slice (some ⟨b, off, none⟩) (xs.length) (c))) Tryz.isAgg22 m0 (.t m0) (by decide) rfl) ?_
        refine TS.val (r_move (.t m4)) ?_
        refine TS.val (r_move (.t m7)) ?_
        refine TS.val (r_nil (.t m0)) ?_
        refine TS.val (r_fa (off' := 0) fo_78_0 (.t m0)) ?_
        refine TS.val (r_ld (v := (.slice (some ⟨b, off, none⟩) (xs.length) (c))) Tryz.isAgg22 m0 (.t m0) (by decide) rfl) ?_
        refine TS.val (r_len Tryz.underlying22 (.t m0)) ?_
        refine TS.val (n_rem (q) (xs.length) (.t m5) (.t m0) rfl rfl (by omega)) ?_
        refine TS.val (r_ia (i := (q % xs.length)) (off' := off + (q % xs.length)) Tryz.underlying22 Tryz.sizeOf5 (.t m7) (.t m0) (rfl) (Nat.mod_lt q (by omega)) (by omega)) ?_
        refine TS.val (r_ldc (v := (.int .u8 ((x1 : Nat) : Int))) Tryz.isAgg5 (.t m0) (fun w hS => hS.base_some (hb _ _ hx1))) ?_
        refine TS.val (n_conv (x1) 9223372036854775808 ⟨_, Tryz.underlying5⟩ Tryz.underlying3 (.t m0) rfl (by omega)) ?_
        refine TS.val (r_asg (.t m0)) ?_
        refine TS.nil ?_
        refine TL.sub (.hd (.tl (.tl (.tl (.tl (.tl (.tl (.tl (.tl (.tl (.tl (.tl (.tl (.tl (.tl .refl))))))))))))))) ?_
        refine TL.nil ?_
        refine EX.seq ?_
        refine CT.cut (X := Nat) (fun gx => [(6, (.int .i64 ((gx : Nat) : Int))), (5, (.int .i64 ((q : Nat) : Int))), (4, (.int .i64 0)), (0, (.pointer (some ⟨r, 0, none⟩))), (1, (.int .i64 ((n : Nat) : Int)))]) (fun gx => (blk r 2 (lst [(.slice (some ⟨b, off, none⟩) (xs.length) (c)), (.int .i64 (((q + 1) : Nat) : Int))])) :: R) (fun gx => gx < 9223372036854775808) ?_ ?_
        ·
          refine CT.seq ?_
          refine CT.region ?_
          refine TL.val (r_move (.t m4)) ?_
          refine TL.val (n_gtr (n) (256) (.t m0) .c rfl rfl) ?_
          refine TL.val (r_move (.t m0)) ?_
          by_cases g44 : 256 < n
          ·
            refine TL.sub (ρ' := [(44, (.bool true)), (43, (.bool true)), (42, (.int .i64 ((n : Nat) : Int))), (6, (.int .i64 ((x1 : Nat) : Int))), (5, (.int .i64 ((q : Nat) : Int))), (4, (.int .i64 0)), (0, (.pointer (some ⟨r, 0, none⟩))), (1, (.int .i64 ((n : Nat) : Int)))]) (.eq m0 (congrArg Value.bool (decide_eq_true g44)) (.eq m1 (congrArg Value.bool (decide_eq_true g44)) (.cons m2 (.cons m3 (.cons m4 (.cons m5 (.cons m6 (.cons m7 .nil)))))))) ?_
            refine TL.gn m0 ?_
            refine TL.gn m0 ?_
            refine TL.gn m0 ?_
            refine TL.gn m0 ?_
            refine TL.gn m0 ?_
            refine TL.gn m0 ?_
            refine TL.gn m0 ?_
            refine TL.val (r_pickt (.t m0) .c) ?_
            refine TL.sub (.hd (.tl (.tl (.tl .refl)))) ?_
            refine TL.nil ?_
            refine EX.seq ?_
            refine CT.ift m0 ?_
            refine CT.sub (.tl .refl) ?_
            refine CT.seq ?_
            have hdv := Nat.div_le_self q xs.length
            obtain ⟨x2, hx2, hl2⟩ := src_get hxs (Nat.mod_lt (q * 7 + 3) (show 0 < xs.length by omega))
            refine CT.still fm (by kernel_rfl) ?_
            refine TS.val (r_move (.t m0)) ?_
            refine TS.val (n_mul (x1) (131) 9223372036854775808 (.t m0) .c rfl rfl (by omega)) ?_
            refine TS.val (r_move (.t m5)) ?_
            refine TS.val (r_nil (.t m0)) ?_
            refine TS.val (r_fa (off' := 0) fo_78_0 (.t m0)) ?_
            refine TS.val (r_ld (v := (.slice (some ⟨b, off, none⟩) (xs.length) (c))) Tryz.isAgg22 m0 (.t m0) (by decide) rfl) ?_
            refine TS.val (r_move (.t m7)) ?_
            refine TS.val (n_mul (q) (7) 9223372036854775808 (.t m0) .c rfl rfl (by omega)) ?_
            refine TS.val (n_add ((q * 7)) (3) 9223372036854775808 (.t m0) .c rfl rfl (by omega)) ?_
            refine TS.val (r_move (.t m12)) ?_
            refine TS.val (r_nil (.t m0)) ?_
            refine TS.val (r_fa (off' := 0) fo_78_0 (.t m0)) ?_
            refine TS.val (r_ld (v := (.slice (some ⟨b, off, none⟩) (xs.length) (c))) Tryz.isAgg22 m0 (.t m0) (by decide) rfl) ?_
            refine TS.val (r_len Tryz.underlying22 (.t m0)) ?_
            refine TS.val (n_rem (((q * 7) + 3)) (xs.length) (.t m5) (.t m0) rfl rfl (by omega)) ?_
            refine TS.val (r_ia (i := (((q * 7) + 3) % xs.length)) (off' := off + (((q * 7) + 3) % xs.length)) Tryz.underlying22 Tryz.sizeOf5 (.t m9) (.t m0) (rfl) (Nat.mod_lt _ (by omega)) (by omega)) ?_
            refine TS.val (r_ldc (v := (.int .u8 ((x2 : Nat) : Int))) Tryz.isAgg5 (.t m0) (fun w hS => hS.base_some (hb _ _ hx2))) ?_
            refine TS.val (n_conv (x2) 9223372036854775808 ⟨_, Tryz.underlying5⟩ Tryz.underlying3 (.t m0) rfl (by omega)) ?_
            refine TS.val (n_mul (x2) (1117) 9223372036854775808 (.t m0) .c rfl rfl (by omega)) ?_
            refine TS.val (n_add ((x1 * 131)) ((x2 * 1117)) 9223372036854775808 (.t m17) (.t m0) rfl rfl (by omega)) ?_
            refine TS.val (r_move (.t m21)) ?_
            refine TS.val (n_mul (q) (29) 9223372036854775808 (.t m0) .c rfl rfl (by omega)) ?_
            refine TS.val (n_add (((x1 * 131) + (x2 * 1117))) ((q * 29)) 9223372036854775808 (.t m2) (.t m0) rfl rfl (by omega)) ?_
            refine TS.val (r_move (.t m24)) ?_
            refine TS.val (r_move (.t m27)) ?_
            refine TS.val (r_nil (.t m0)) ?_
            refine TS.val (r_fa (off' := 0) fo_78_0 (.t m0)) ?_
            refine TS.val (r_ld (v := (.slice (some ⟨b, off, none⟩) (xs.length) (c))) Tryz.isAgg22 m0 (.t m0) (by decide) rfl) ?_
            refine TS.val (r_len Tryz.underlying22 (.t m0)) ?_
            refine TS.val (n_quo (q) (xs.length) 9223372036854775808 (.t m5) (.t m0) rfl rfl (by omega) (by omega)) ?_
            refine TS.val (n_mul ((q / xs.length)) (53) 9223372036854775808 (.t m0) .c rfl rfl (by have := Nat.div_le_self q xs.length; omega)) ?_
            refine TS.val (n_add ((((x1 * 131) + (x2 * 1117)) + (q * 29))) (((q / xs.length) * 53)) 9223372036854775808 (.t m8) (.t m0) rfl rfl (by have := Nat.div_le_self q xs.length; omega)) ?_
            refine TS.rm (.there (.there (.there (.there (.there (.there (.there (.there (.there (.there (.there (.there (.there (.there (.there (.there (.there (.there (.there (.there (.there (.there (.there (.there (.there (.there (.there (.there (.there (.there (.there (.there .here)))))))))))))))))))))))))))))))) ?_
            refine TS.val (r_asg (.t m0)) ?_
            refine TS.nil ?_
            refine TL.sub (.hd (.tl (.tl (.tl (.tl (.tl (.tl (.tl (.tl (.tl (.tl (.tl (.tl (.tl (.tl (.tl (.tl (.tl (.tl (.tl (.tl (.tl (.tl (.tl (.tl (.tl (.tl (.tl (.tl (.tl (.tl (.tl (.tl .refl))))))))))))))))))))))))))))))))) ?_
            refine TL.nil ?_
            refine EX.seq ?_
            refine CT.region ?_
            refine TL.val (r_move (.t m0)) ?_
            refine TL.val (r_move (.t m1)) ?_
            refine TL.val (n_quo (((((x1 * 131) + (x2 * 1117)) + (q * 29)) + ((q / xs.length) * 53))) (64) 9223372036854775808 (.t m0) .c rfl rfl (by omega) (by omega)) ?_
            refine TL.val (n_xor (((((x1 * 131) + (x2 * 1117)) + (q * 29)) + ((q / xs.length) * 53))) ((((((x1 * 131) + (x2 * 1117)) + (q * 29)) + ((q / xs.length) * 53)) / 64)) 9223372036854775808 (.t m2) (.t m0) rfl rfl (by omega) (by omega)) ?_
            refine TL.rm (.there (.there (.there (.there .here)))) ?_
            refine TL.val (r_asg (.t m0)) ?_
            refine TL.sub (.hd (.tl (.tl (.tl (.tl .refl))))) ?_
            refine TL.nil ?_
            exact EX.meet ((((((x1 * 131) + (x2 * 1117)) + (q * 29)) + ((q / xs.length) * 53)) ^^^ (((((x1 * 131) + (x2 * 1117)) + (q * 29)) + ((q / xs.length) * 53)) / 64))) (by refine Nat.xor_lt_two_pow (n := 63) ?_ ?_ <;> (have := Nat.div_le_self q xs.length; omega)) (.refl _) (.cons m0 (.cons m1 (.cons m2 (.cons m3 (.cons m4 .nil)))))
          ·
            refine TL.sub (ρ' := [(44, (.bool false)), (43, (.bool false)), (42, (.int .i64 ((n : Nat) : Int))), (6, (.int .i64 ((x1 : Nat) : Int))), (5, (.int .i64 ((q : Nat) : Int))), (4, (.int .i64 0)), (0, (.pointer (some ⟨r, 0, none⟩))), (1, (.int .i64 ((n : Nat) : Int)))]) (.eq m0 (congrArg Value.bool (decide_eq_false g44)) (.eq m1 (congrArg Value.bool (decide_eq_false g44)) (.cons m2 (.cons m3 (.cons m4 (.cons m5 (.cons m6 (.cons m7 .nil)))))))) ?_
            refine TL.gv m0 (r_move (.t m4)) ?_
            refine TL.gv m1 (r_move (.t m7)) ?_
            refine TL.gv m2 (r_nil (.t m0)) ?_
            refine TL.gv m3 (r_fa (off' := 0) fo_78_0 (.t m0)) ?_
            refine TL.gv m4 (r_ld (v := (.slice (some ⟨b, off, none⟩) (xs.length) (c))) Tryz.isAgg22 m0 (.t m0) (by decide) rfl) ?_
            refine TL.gv m5 (r_len Tryz.underlying22 (.t m0)) ?_
            refine TL.gv m6 (n_geq (q) (xs.length) (.t m5) (.t m0) rfl rfl) ?_
            refine TL.val (r_pickf (.t m7) (.t m0)) ?_
            refine TL.sub (.hd (.tl (.tl (.tl (.tl (.tl (.tl (.tl (.tl (.tl (.tl .refl))))))))))) ?_
            refine TL.nil ?_
            refine EX.seq ?_
            refine CT.ifd m0 (fun c52 => ?_) (fun c52 => ?_)
            ·
              refine CT.sub (.tl .refl) ?_
              refine CT.seq ?_
              have hdv := Nat.div_le_self q xs.length
              obtain ⟨x2, hx2, hl2⟩ := src_get hxs (Nat.mod_lt (q * 7 + 3) (show 0 < xs.length by omega))
              refine CT.still fm (by kernel_rfl) ?_
              refine TS.val (r_move (.t m0)) ?_
              refine TS.val (n_mul (x1) (131) 9223372036854775808 (.t m0) .c rfl rfl (by omega)) ?_
              refine TS.val (r_move (.t m5)) ?_
              refine TS.val (r_nil (.t m0)) ?_
              refine TS.val (r_fa (off' := 0) fo_78_0 (.t m0)) ?_
              refine TS.val (r_ld (v := (.slice (some ⟨b, off, none⟩) (xs.length) (c))) Tryz.isAgg22 m0 (.t m0) (by decide) rfl) ?_
              refine TS.val (r_move (.t m7)) ?_
              refine TS.val (n_mul (q) (7) 9223372036854775808 (.t m0) .c rfl rfl (by omega)) ?_
              refine TS.val (n_add ((q * 7)) (3) 9223372036854775808 (.t m0) .c rfl rfl (by omega)) ?_
              refine TS.val (r_move (.t m12)) ?_
              refine TS.val (r_nil (.t m0)) ?_
              refine TS.val (r_fa (off' := 0) fo_78_0 (.t m0)) ?_
              refine TS.val (r_ld (v := (.slice (some ⟨b, off, none⟩) (xs.length) (c))) Tryz.isAgg22 m0 (.t m0) (by decide) rfl) ?_
              refine TS.val (r_len Tryz.underlying22 (.t m0)) ?_
              refine TS.val (n_rem (((q * 7) + 3)) (xs.length) (.t m5) (.t m0) rfl rfl (by omega)) ?_
              refine TS.val (r_ia (i := (((q * 7) + 3) % xs.length)) (off' := off + (((q * 7) + 3) % xs.length)) Tryz.underlying22 Tryz.sizeOf5 (.t m9) (.t m0) (rfl) (Nat.mod_lt _ (by omega)) (by omega)) ?_
              refine TS.val (r_ldc (v := (.int .u8 ((x2 : Nat) : Int))) Tryz.isAgg5 (.t m0) (fun w hS => hS.base_some (hb _ _ hx2))) ?_
              refine TS.val (n_conv (x2) 9223372036854775808 ⟨_, Tryz.underlying5⟩ Tryz.underlying3 (.t m0) rfl (by omega)) ?_
              refine TS.val (n_mul (x2) (1117) 9223372036854775808 (.t m0) .c rfl rfl (by omega)) ?_
              refine TS.val (n_add ((x1 * 131)) ((x2 * 1117)) 9223372036854775808 (.t m17) (.t m0) rfl rfl (by omega)) ?_
              refine TS.val (r_move (.t m21)) ?_
              refine TS.val (n_mul (q) (29) 9223372036854775808 (.t m0) .c rfl rfl (by omega)) ?_
              refine TS.val (n_add (((x1 * 131) + (x2 * 1117))) ((q * 29)) 9223372036854775808 (.t m2) (.t m0) rfl rfl (by omega)) ?_
              refine TS.val (r_move (.t m24)) ?_
              refine TS.val (r_move (.t m27)) ?_
              refine TS.val (r_nil (.t m0)) ?_
              refine TS.val (r_fa (off' := 0) fo_78_0 (.t m0)) ?_
              refine TS.val (r_ld (v := (.slice (some ⟨b, off, none⟩) (xs.length) (c))) Tryz.isAgg22 m0 (.t m0) (by decide) rfl) ?_
              refine TS.val (r_len Tryz.underlying22 (.t m0)) ?_
              refine TS.val (n_quo (q) (xs.length) 9223372036854775808 (.t m5) (.t m0) rfl rfl (by omega) (by omega)) ?_
              refine TS.val (n_mul ((q / xs.length)) (53) 9223372036854775808 (.t m0) .c rfl rfl (by have := Nat.div_le_self q xs.length; omega)) ?_
              refine TS.val (n_add ((((x1 * 131) + (x2 * 1117)) + (q * 29))) (((q / xs.length) * 53)) 9223372036854775808 (.t m8) (.t m0) rfl rfl (by have := Nat.div_le_self q xs.length; omega)) ?_
              refine TS.rm (.there (.there (.there (.there (.there (.there (.there (.there (.there (.there (.there (.there (.there (.there (.there (.there (.there (.there (.there (.there (.there (.there (.there (.there (.there (.there (.there (.there (.there (.there (.there (.there .here)))))))))))))))))))))))))))))))) ?_
              refine TS.val (r_asg (.t m0)) ?_
              refine TS.nil ?_
              refine TL.sub (.hd (.tl (.tl (.tl (.tl (.tl (.tl (.tl (.tl (.tl (.tl (.tl (.tl (.tl (.tl (.tl (.tl (.tl (.tl (.tl (.tl (.tl (.tl (.tl (.tl (.tl (.tl (.tl (.tl (.tl (.tl (.tl (.tl .refl))))))))))))))))))))))))))))))))) ?_
              refine TL.nil ?_
              refine EX.seq ?_
              refine CT.region ?_
              refine TL.val (r_move (.t m0)) ?_
              refine TL.val (r_move (.t m1)) ?_
              refine TL.val (n_quo (((((x1 * 131) + (x2 * 1117)) + (q * 29)) + ((q / xs.length) * 53))) (64) 9223372036854775808 (.t m0) .c rfl rfl (by omega) (by omega)) ?_
              refine TL.val (n_xor (((((x1 * 131) + (x2 * 1117)) + (q * 29)) + ((q / xs.length) * 53))) ((((((x1 * 131) + (x2 * 1117)) + (q * 29)) + ((q / xs.length) * 53)) / 64)) 9223372036854775808 (.t m2) (.t m0) rfl rfl (by omega) (by omega)) ?_
              refine TL.rm (.there (.there (.there (.there .here)))) ?_
              refine TL.val (r_asg (.t m0)) ?_
              refine TL.sub (.hd (.tl (.tl (.tl (.tl .refl))))) ?_
              refine TL.nil ?_
              exact EX.meet ((((((x1 * 131) + (x2 * 1117)) + (q * 29)) + ((q / xs.length) * 53)) ^^^ (((((x1 * 131) + (x2 * 1117)) + (q * 29)) + ((q / xs.length) * 53)) / 64))) (by refine Nat.xor_lt_two_pow (n := 63) ?_ ?_ <;> (have := Nat.div_le_self q xs.length; omega)) (.refl _) (.cons m0 (.cons m1 (.cons m2 (.cons m3 (.cons m4 .nil)))))
            ·
              refine CT.sub (.tl .refl) ?_
              refine CT.skip ?_
              exact EX.meet (x1) (by omega) (.refl _) (.cons m0 (.cons m1 (.cons m2 (.cons m3 (.cons m4 .nil)))))
        ·
          rintro y hI
          show CT _ _ _ [(6, (.int .i64 ((y : Nat) : Int))), (5, (.int .i64 ((q : Nat) : Int))), (4, (.int .i64 0)), (0, (.pointer (some ⟨r, 0, none⟩))), (1, (.int .i64 ((n : Nat) : Int)))] _ _ ((blk r 2 (lst [(.slice (some ⟨b, off, none⟩) (xs.length) (c)), (.int .i64 (((q + 1) : Nat) : Int))])) :: R)
          refine CT.seq ?_
          refine CT.region ?_
          refine TL.val (r_move (.t m0)) ?_
          refine TL.val (r_move (.t m5)) ?_
          refine TL.val (n_rem (y) (n) (.t m1) (.t m0) rfl rfl (by omega)) ?_
          refine TL.rm (.there (.there (.there (.there (.there .here))))) ?_
          refine TL.val (r_asg (.t m0)) ?_
          refine TL.sub (.hd (.tl (.tl (.tl .refl)))) ?_
          refine TL.nil ?_
          refine EX.seq ?_
          refine CT.ret ?_
          exact EX.end_ (.inl rfl) (res1 Tryz.results39 m0) (fun _ hS => ⟨(y % n), rfl, Nat.lt_of_lt_of_le (Nat.mod_lt _ (by omega)) (by omega), Sat.toRdr hsrc (by omega) hS⟩)
end Go.Eng
