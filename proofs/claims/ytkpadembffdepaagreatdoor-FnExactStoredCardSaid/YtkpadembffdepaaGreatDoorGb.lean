/- The walks of the window of what was given. -/
import Derived.Test.YtkpadembffdepaaGreatDoorGa
namespace Go.Eng
open Go Go.Proofs Go.Infl
set_option maxRecDepth 20000
set_option linter.unusedSimpArgs false
set_option linter.unusedVariables false

theorem t114 (f hb : Nat) (s : DS) (h1 : s.wr ≤ 32768) {G : World} {R : List HProp} {w : World} (hS : Sat G w ((blk f 1054 (D ⟨s.r, s.rBuf, (s.roff), (s.b), (s.nb), s.H, s.bits, s.cbits, (.slice (some ⟨hb, 0, none⟩) (32768) (32768)), (s.wr), (s.rd), (s.full), (s.b0), (s.b1), (s.b2), (s.b3), s.step, (s.ss), (s.final), s.err, s.toRead, s.hl, s.hd, (s.cl), (s.cd)⟩)) :: R)) :
    CallsR Tryz.prog 114 #[(.pointer (some ⟨f, 1037, none⟩))] w (fun v w' => v = i64 (32768 - s.wr) ∧ Sat G w' ((blk f 1054 (D ⟨s.r, s.rBuf, (s.roff), (s.b), (s.nb), s.H, s.bits, s.cbits, (.slice (some ⟨hb, 0, none⟩) (32768) (32768)), (s.wr), (s.rd), (s.full), (s.b0), (s.b1), (s.b2), (s.b3), s.step, (s.ss), (s.final), s.err, s.toRead, s.hl, s.hd, (s.cl), (s.cd)⟩)) :: R)) := by
  refine calls_in (n := 13) [(0, (.pointer (some ⟨f, 1037, none⟩)))] Tryz.func114 rfl rfl hS args1 ?_
  refine CT.seq ?_
  refine CT.region ?_
  refine TL.val (r_asg .c) ?_
  refine TL.nil ?_
  refine EX.seq ?_
  refine CT.seq ?_
  refine CT.still fm (by kernel_rfl) ?_
  refine TS.val (r_move (.t m1)) ?_
  refine TS.val (r_nil (.t m0)) ?_
  refine TS.val (r_fa (off' := 1037) fo_98_0 (.t m0)) ?_
  refine TS.val (r_ld (v := (.slice (some ⟨hb, 0, none⟩) (32768) (32768))) Tryz.isAgg22 m0 (.t m0) (by decide) (Dget_hist _)) ?_
  refine TS.val (r_len Tryz.underlying22 (.t m0)) ?_
  refine TS.val (r_move (.t m6)) ?_
  refine TS.val (r_nil (.t m0)) ?_
  refine TS.val (r_fa (off' := 1038) fo_98_1 (.t m0)) ?_
  refine TS.val (r_ld (v := (.int .i64 ((s.wr : Nat) : Int))) Tryz.isAgg3 m0 (.t m0) (by decide) (Dget_wr _)) ?_
  refine TS.val (n_sub (32768) (s.wr) 9223372036854775808 (.t m4) (.t m0) rfl rfl (by omega) (by omega)) ?_
  refine TS.rm (.there (.there (.there (.there (.there (.there (.there (.there (.there (.there .here)))))))))) ?_
  refine TS.val (r_asg (.t m0)) ?_
  refine TS.nil ?_
  refine TL.sub (.hd (.tl (.tl (.tl (.tl (.tl (.tl (.tl (.tl (.tl (.tl (.tl .refl)))))))))))) ?_
  refine TL.nil ?_
  refine EX.seq ?_
  refine CT.ret ?_
  exact EX.end_ (.inl rfl) (res1 Tryz.results114 m0) (fun _ hS => ⟨rfl, hS⟩)
theorem t124 (f hb : Nat) (s : DS) (h1 : s.wr ≤ 32768) (h2 : s.rd ≤ s.wr) {G : World} {R : List HProp} {w : World} (hS : Sat G w ((blk f 1054 (D ⟨s.r, s.rBuf, (s.roff), (s.b), (s.nb), s.H, s.bits, s.cbits, (.slice (some ⟨hb, 0, none⟩) (32768) (32768)), (s.wr), (s.rd), (s.full), (s.b0), (s.b1), (s.b2), (s.b3), s.step, (s.ss), (s.final), s.err, s.toRead, s.hl, s.hd, (s.cl), (s.cd)⟩)) :: R)) :
    CallsR Tryz.prog 124 #[(.pointer (some ⟨f, 1037, none⟩))] w (fun v w' => v = i64 (s.wr - s.rd) ∧ Sat G w' ((blk f 1054 (D ⟨s.r, s.rBuf, (s.roff), (s.b), (s.nb), s.H, s.bits, s.cbits, (.slice (some ⟨hb, 0, none⟩) (32768) (32768)), (s.wr), (s.rd), (s.full), (s.b0), (s.b1), (s.b2), (s.b3), s.step, (s.ss), (s.final), s.err, s.toRead, s.hl, s.hd, (s.cl), (s.cd)⟩)) :: R)) := by
  refine calls_in (n := 12) [(0, (.pointer (some ⟨f, 1037, none⟩)))] Tryz.func124 rfl rfl hS args1 ?_
  refine CT.seq ?_
  refine CT.region ?_
  refine TL.val (r_asg .c) ?_
  refine TL.nil ?_
  refine EX.seq ?_
  refine CT.seq ?_
  refine CT.still fm (by kernel_rfl) ?_
  refine TS.val (r_move (.t m1)) ?_
  refine TS.val (r_nil (.t m0)) ?_
  refine TS.val (r_fa (off' := 1038) fo_98_1 (.t m0)) ?_
  refine TS.val (r_ld (v := (.int .i64 ((s.wr : Nat) : Int))) Tryz.isAgg3 m0 (.t m0) (by decide) (Dget_wr _)) ?_
  refine TS.val (r_move (.t m5)) ?_
  refine TS.val (r_nil (.t m0)) ?_
  refine TS.val (r_fa (off' := 1039) fo_98_2 (.t m0)) ?_
  refine TS.val (r_ld (v := (.int .i64 ((s.rd : Nat) : Int))) Tryz.isAgg3 m0 (.t m0) (by decide) (Dget_rd _)) ?_
  refine TS.val (n_sub (s.wr) (s.rd) 9223372036854775808 (.t m4) (.t m0) rfl rfl (by omega) (by omega)) ?_
  refine TS.rm (.there (.there (.there (.there (.there (.there (.there (.there (.there .here))))))))) ?_
  refine TS.val (r_asg (.t m0)) ?_
  refine TS.nil ?_
  refine TL.sub (.hd (.tl (.tl (.tl (.tl (.tl (.tl (.tl (.tl (.tl (.tl .refl))))))))))) ?_
  refine TL.nil ?_
  refine EX.seq ?_
  refine CT.ret ?_
  exact EX.end_ (.inl rfl) (res1 Tryz.results124 m0) (fun _ hS => ⟨rfl, hS⟩)
theorem t126 (f hb : Nat) (s : DS) (n : Nat) (h1 : s.wr + n ≤ 32768) {G : World} {R : List HProp} {w : World} (hS : Sat G w ((blk f 1054 (D ⟨s.r, s.rBuf, (s.roff), (s.b), (s.nb), s.H, s.bits, s.cbits, (.slice (some ⟨hb, 0, none⟩) (32768) (32768)), (s.wr), (s.rd), (s.full), (s.b0), (s.b1), (s.b2), (s.b3), s.step, (s.ss), (s.final), s.err, s.toRead, s.hl, s.hd, (s.cl), (s.cd)⟩)) :: R)) :
    CallsR Tryz.prog 126 #[(.pointer (some ⟨f, 1037, none⟩)), (.int .i64 ((n : Nat) : Int))] w (fun v w' => v = .tuple #[] ∧ Sat G w' ((blk f 1054 (D ⟨s.r, s.rBuf, (s.roff), (s.b), (s.nb), s.H, s.bits, s.cbits, (.slice (some ⟨hb, 0, none⟩) (32768) (32768)), ((s.wr + n)), (s.rd), (s.full), (s.b0), (s.b1), (s.b2), (s.b3), s.step, (s.ss), (s.final), s.err, s.toRead, s.hl, s.hd, (s.cl), (s.cd)⟩)) :: R)) := by
  refine calls_in (n := 12) [(0, (.pointer (some ⟨f, 1037, none⟩))), (1, (.int .i64 ((n : Nat) : Int)))] Tryz.func126 rfl rfl hS args2 ?_
  refine CT.region ?_
  refine TL.val (r_move (.t m0)) ?_
  refine TL.val (r_nil (.t m0)) ?_
  refine TL.val (r_fa (off' := 1038) fo_98_1 (.t m0)) ?_
  refine TL.val (r_ld (v := (.int .i64 ((s.wr : Nat) : Int))) Tryz.isAgg3 m0 (.t m0) (by decide) (Dget_wr _)) ?_
  refine TL.val (r_move (.t m5)) ?_
  refine TL.val (n_add (s.wr) (n) 9223372036854775808 (.t m1) (.t m0) rfl rfl (by omega)) ?_
  refine TL.val (r_nil (.t m5)) ?_
  refine TL.val (r_fa (off' := 1038) fo_98_1 (.t m0)) ?_
  refine TL.s (r_st (F' := D ⟨s.r, s.rBuf, (s.roff), (s.b), (s.nb), s.H, s.bits, s.cbits, (.slice (some ⟨hb, 0, none⟩) (32768) (32768)), ((s.wr + n)), (s.rd), (s.full), (s.b0), (s.b1), (s.b2), (s.b3), s.step, (s.ss), (s.final), s.err, s.toRead, s.hl, s.hd, (s.cl), (s.cd)⟩) Tryz.sizeOf3 (Dset_wr ⟨s.r, s.rBuf, (s.roff), (s.b), (s.nb), s.H, s.bits, s.cbits, (.slice (some ⟨hb, 0, none⟩) (32768) (32768)), (s.wr), (s.rd), (s.full), (s.b0), (s.b1), (s.b2), (s.b3), s.step, (s.ss), (s.final), s.err, s.toRead, s.hl, s.hd, (s.cl), (s.cd)⟩ ((s.wr + n))) a0 (.t m0) (.t m2) (by decide)) ?_
  refine TL.sub (.tl (.tl (.tl (.tl (.tl (.tl (.tl (.tl (.tl (.tl .refl)))))))))) ?_
  refine TL.nil ?_
  exact EX.end_ (.inr rfl) (res0 Tryz.results126) (fun _ hS => ⟨rfl, hS⟩)
theorem t125 (f hb : Nat) (s : DS) (h1 : s.wr < 32768) {G : World} {R : List HProp} {w : World} (hS : Sat G w ((blk f 1054 (D ⟨s.r, s.rBuf, (s.roff), (s.b), (s.nb), s.H, s.bits, s.cbits, (.slice (some ⟨hb, 0, none⟩) (32768) (32768)), (s.wr), (s.rd), (s.full), (s.b0), (s.b1), (s.b2), (s.b3), s.step, (s.ss), (s.final), s.err, s.toRead, s.hl, s.hd, (s.cl), (s.cd)⟩)) :: R)) :
    CallsR Tryz.prog 125 #[(.pointer (some ⟨f, 1037, none⟩))] w (fun v w' => v = .slice (some ⟨hb, s.wr, none⟩) (32768 - s.wr) (32768 - s.wr) ∧ Sat G w' ((blk f 1054 (D ⟨s.r, s.rBuf, (s.roff), (s.b), (s.nb), s.H, s.bits, s.cbits, (.slice (some ⟨hb, 0, none⟩) (32768) (32768)), (s.wr), (s.rd), (s.full), (s.b0), (s.b1), (s.b2), (s.b3), s.step, (s.ss), (s.final), s.err, s.toRead, s.hl, s.hd, (s.cl), (s.cd)⟩)) :: R)) := by
  refine calls_in (n := 12) [(0, (.pointer (some ⟨f, 1037, none⟩)))] Tryz.func125 rfl rfl hS args1 ?_
  refine CT.seq ?_
  refine CT.region ?_
  refine TL.val (r_asg .c) ?_
  refine TL.nil ?_
  refine EX.seq ?_
  refine CT.seq ?_
  refine CT.still fm (by kernel_rfl) ?_
  refine TS.val (r_move (.t m1)) ?_
  refine TS.val (r_nil (.t m0)) ?_
  refine TS.val (r_fa (off' := 1037) fo_98_0 (.t m0)) ?_
  refine TS.val (r_ld (v := (.slice (some ⟨hb, 0, none⟩) (32768) (32768))) Tryz.isAgg22 m0 (.t m0) (by decide) (Dget_hist _)) ?_
  refine TS.val (r_move (.t m5)) ?_
  refine TS.val (r_nil (.t m0)) ?_
  refine TS.val (r_fa (off' := 1038) fo_98_1 (.t m0)) ?_
  refine TS.val (r_ld (v := (.int .i64 ((s.wr : Nat) : Int))) Tryz.isAgg3 m0 (.t m0) (by decide) (Dget_wr _)) ?_
  refine TS.val (r_slice (off' := s.wr) (m := 32768 - s.wr) (c' := 32768 - s.wr) Tryz.underlying22 Tryz.sizeOf5 (.t m4) (.so (j := s.wr) (.t m0) rfl) .no (by (try simp) <;> omega) (by (try simp) <;> omega) (by simp; omega) (by simp) (by simp)) ?_
  refine TS.rm (.there (.there (.there (.there (.there (.there (.there (.there (.there .here))))))))) ?_
  refine TS.val (r_asg (.t m0)) ?_
  refine TS.nil ?_
  refine TL.sub (.hd (.tl (.tl (.tl (.tl (.tl (.tl (.tl (.tl (.tl (.tl .refl))))))))))) ?_
  refine TL.nil ?_
  refine EX.seq ?_
  refine CT.ret ?_
  exact EX.end_ (.inl rfl) (res1 Tryz.results125 m0) (fun _ hS => ⟨rfl, hS⟩)
theorem t116 (f hb : Nat) (s : DS) {G : World} {R : List HProp} {w : World} (hS : Sat G w ((blk f 1054 (D ⟨s.r, s.rBuf, (s.roff), (s.b), (s.nb), s.H, s.bits, s.cbits, (.slice (some ⟨hb, 0, none⟩) (32768) (32768)), (s.wr), (s.rd), (s.full), (s.b0), (s.b1), (s.b2), (s.b3), s.step, (s.ss), (s.final), s.err, s.toRead, s.hl, s.hd, (s.cl), (s.cd)⟩)) :: R)) :
    CallsR Tryz.prog 116 #[(.pointer (some ⟨f, 1037, none⟩))] w (fun v w' => v = i64 (if s.full = true then 32768 else s.wr) ∧ Sat G w' ((blk f 1054 (D ⟨s.r, s.rBuf, (s.roff), (s.b), (s.nb), s.H, s.bits, s.cbits, (.slice (some ⟨hb, 0, none⟩) (32768) (32768)), (s.wr), (s.rd), (s.full), (s.b0), (s.b1), (s.b2), (s.b3), s.step, (s.ss), (s.final), s.err, s.toRead, s.hl, s.hd, (s.cl), (s.cd)⟩)) :: R)) := by
  refine calls_in (n := 16) [(0, (.pointer (some ⟨f, 1037, none⟩)))] Tryz.func116 rfl rfl hS args1 ?_
  refine CT.seq ?_
  refine CT.region ?_
  refine TL.val (r_asg .c) ?_
  refine TL.nil ?_
  refine EX.seq ?_
  refine CT.seq ?_
  refine CT.seq ?_
  refine CT.region ?_
  refine TL.val (r_move (.t m1)) ?_
  refine TL.val (r_nil (.t m0)) ?_
  refine TL.val (r_fa (off' := 1040) fo_98_3 (.t m0)) ?_
  refine TL.val (r_ld (v := (.bool s.full)) Tryz.isAgg4 m0 (.t m0) (by decide) (Dget_full _)) ?_
  refine TL.sub (.hd (.tl (.tl (.tl .refl)))) ?_
  refine TL.nil ?_
  refine EX.seq ?_
  refine CT.iff m0 (fun c6 => ?_) (fun c6 => ?_)
  ·
    refine CT.sub (.tl .refl) ?_
    refine CT.seq ?_
    refine CT.region ?_
    refine TL.val (r_move (.t m1)) ?_
    refine TL.val (r_nil (.t m0)) ?_
    refine TL.val (r_fa (off' := 1037) fo_98_0 (.t m0)) ?_
    refine TL.val (r_ld (v := (.slice (some ⟨hb, 0, none⟩) (32768) (32768))) Tryz.isAgg22 m0 (.t m0) (by decide) (Dget_hist _)) ?_
    refine TL.val (r_len Tryz.underlying22 (.t m0)) ?_
    refine TL.rm (.there (.there (.there (.there (.there .here))))) ?_
    refine TL.val (r_asg (.t m0)) ?_
    refine TL.sub (.hd (.tl (.tl (.tl (.tl (.tl .refl)))))) ?_
    refine TL.nil ?_
    refine EX.seq ?_
    refine CT.ret ?_
    refine EX.then_ret ?_
    exact EX.end_ (.inl rfl) (res1 Tryz.results116 m0) (fun _ hS => ⟨by simp [c6], hS⟩)
  ·
    refine CT.sub (.tl .refl) ?_
    refine CT.skip ?_
    refine EX.seq ?_
    refine CT.seq ?_
    refine CT.region ?_
    refine TL.val (r_move (.t m1)) ?_
    refine TL.val (r_nil (.t m0)) ?_
    refine TL.val (r_fa (off' := 1038) fo_98_1 (.t m0)) ?_
    refine TL.val (r_ld (v := (.int .i64 ((s.wr : Nat) : Int))) Tryz.isAgg3 m0 (.t m0) (by decide) (Dget_wr _)) ?_
    refine TL.rm (.there (.there (.there (.there .here)))) ?_
    refine TL.val (r_asg (.t m0)) ?_
    refine TL.sub (.hd (.tl (.tl (.tl (.tl .refl))))) ?_
    refine TL.nil ?_
    refine EX.seq ?_
    refine CT.ret ?_
    exact EX.end_ (.inl rfl) (res1 Tryz.results116 m0) (fun _ hS => ⟨by simp [c6], hS⟩)
theorem t108 (f hb : Nat) (s : DS) (h1 : s.rd ≤ s.wr) (h2 : s.wr ≤ 32768) (h3 : s.rd < 32768) {G : World} {R : List HProp} {w : World} (hS : Sat G w ((blk f 1054 (D ⟨s.r, s.rBuf, (s.roff), (s.b), (s.nb), s.H, s.bits, s.cbits, (.slice (some ⟨hb, 0, none⟩) (32768) (32768)), (s.wr), (s.rd), (s.full), (s.b0), (s.b1), (s.b2), (s.b3), s.step, (s.ss), (s.final), s.err, s.toRead, s.hl, s.hd, (s.cl), (s.cd)⟩)) :: R)) :
    CallsR Tryz.prog 108 #[(.pointer (some ⟨f, 1037, none⟩))] w (fun v w' => v = .slice (some ⟨hb, s.rd, none⟩) (s.wr - s.rd) (32768 - s.rd) ∧ Sat G w' ((blk f 1054 (D ⟨s.r, s.rBuf, (s.roff), (s.b), (s.nb), s.H, s.bits, s.cbits, (.slice (some ⟨hb, 0, none⟩) (32768) (32768)), ((s.wr % 32768)), ((s.wr % 32768)), (s.full || decide (s.wr = 32768)), (s.b0), (s.b1), (s.b2), (s.b3), s.step, (s.ss), (s.final), s.err, s.toRead, s.hl, s.hd, (s.cl), (s.cd)⟩)) :: R)) := by
  refine calls_in (n := 44) [(0, (.pointer (some ⟨f, 1037, none⟩)))] Tryz.func108 rfl rfl hS args1 ?_
  refine CT.seq ?_
  refine CT.region ?_
  refine TL.val (r_asg .c) ?_
  refine TL.nil ?_
  refine EX.seq ?_
  refine CT.seq ?_
  refine CT.still fm (by kernel_rfl) ?_
  refine TS.val (r_move (.t m1)) ?_
  refine TS.val (r_nil (.t m0)) ?_
  refine TS.val (r_fa (off' := 1037) fo_98_0 (.t m0)) ?_
  refine TS.val (r_ld (v := (.slice (some ⟨hb, 0, none⟩) (32768) (32768))) Tryz.isAgg22 m0 (.t m0) (by decide) (Dget_hist _)) ?_
  refine TS.val (r_move (.t m5)) ?_
  refine TS.val (r_nil (.t m0)) ?_
  refine TS.val (r_fa (off' := 1039) fo_98_2 (.t m0)) ?_
  refine TS.val (r_ld (v := (.int .i64 ((s.rd : Nat) : Int))) Tryz.isAgg3 m0 (.t m0) (by decide) (Dget_rd _)) ?_
  refine TS.val (r_move (.t m9)) ?_
  refine TS.val (r_nil (.t m0)) ?_
  refine TS.val (r_fa (off' := 1038) fo_98_1 (.t m0)) ?_
  refine TS.val (r_ld (v := (.int .i64 ((s.wr : Nat) : Int))) Tryz.isAgg3 m0 (.t m0) (by decide) (Dget_wr _)) ?_
  refine TS.val (r_slice (off' := s.rd) (m := s.wr - s.rd) (c' := 32768 - s.rd) Tryz.underlying22 Tryz.sizeOf5 (.t m8) (.so (j := s.rd) (.t m4) rfl) (.so (j := s.wr) (.t m0) rfl) (by (try simp) <;> omega) (by (try simp) <;> omega) (by simp; omega) (by simp) (by simp)) ?_
  refine TS.val (r_asg (.t m0)) ?_
  refine TS.nil ?_
  refine TL.sub (.hd (.tl (.tl (.tl (.tl (.tl (.tl (.tl (.tl (.tl (.tl (.tl (.tl (.tl .refl)))))))))))))) ?_
  refine TL.nil ?_
  refine EX.seq ?_
  refine CT.seq ?_
  refine CT.region ?_
  refine TL.val (r_move (.t m2)) ?_
  refine TL.val (r_move (.t m3)) ?_
  refine TL.val (r_nil (.t m0)) ?_
  refine TL.val (r_fa (off' := 1038) fo_98_1 (.t m0)) ?_
  refine TL.val (r_ld (v := (.int .i64 ((s.wr : Nat) : Int))) Tryz.isAgg3 m0 (.t m0) (by decide) (Dget_wr _)) ?_
  refine TL.val (r_nil (.t m4)) ?_
  refine TL.val (r_fa (off' := 1039) fo_98_2 (.t m0)) ?_
  refine TL.s (r_st (F' := D ⟨s.r, s.rBuf, (s.roff), (s.b), (s.nb), s.H, s.bits, s.cbits, (.slice (some ⟨hb, 0, none⟩) (32768) (32768)), (s.wr), (s.wr), (s.full), (s.b0), (s.b1), (s.b2), (s.b3), s.step, (s.ss), (s.final), s.err, s.toRead, s.hl, s.hd, (s.cl), (s.cd)⟩) Tryz.sizeOf3 (Dset_rd ⟨s.r, s.rBuf, (s.roff), (s.b), (s.nb), s.H, s.bits, s.cbits, (.slice (some ⟨hb, 0, none⟩) (32768) (32768)), (s.wr), (s.rd), (s.full), (s.b0), (s.b1), (s.b2), (s.b3), s.step, (s.ss), (s.final), s.err, s.toRead, s.hl, s.hd, (s.cl), (s.cd)⟩ (s.wr)) a0 (.t m0) (.t m2) (by decide)) ?_
  refine TL.sub (.tl (.tl (.tl (.tl (.tl (.tl (.tl .refl))))))) ?_
  refine TL.nil ?_
  refine EX.seq ?_
  refine CT.seq ?_
  refine CT.seq ?_
  refine CT.still fm (by kernel_rfl) ?_
  refine TS.val (r_move (.t m2)) ?_
  refine TS.val (r_nil (.t m0)) ?_
  refine TS.val (r_fa (off' := 1038) fo_98_1 (.t m0)) ?_
  refine TS.val (r_ld (v := (.int .i64 ((s.wr : Nat) : Int))) Tryz.isAgg3 m0 (.t m0) (by decide) (Dget_wr _)) ?_
  refine TS.val (r_move (.t m6)) ?_
  refine TS.val (r_nil (.t m0)) ?_
  refine TS.val (r_fa (off' := 1037) fo_98_0 (.t m0)) ?_
  refine TS.val (r_ld (v := (.slice (some ⟨hb, 0, none⟩) (32768) (32768))) Tryz.isAgg22 m0 (.t m0) (by decide) (Dget_hist _)) ?_
  refine TS.val (r_len Tryz.underlying22 (.t m0)) ?_
  refine TS.val (n_eql (s.wr) (32768) (.t m5) (.t m0) rfl rfl) ?_
  refine TS.nil ?_
  refine TL.sub (.hd (.tl (.tl (.tl (.tl (.tl (.tl (.tl (.tl (.tl .refl)))))))))) ?_
  refine TL.nil ?_
  refine EX.seq ?_
  refine CT.ifd m0 (fun c33 => ?_) (fun c33 => ?_)
  ·
    refine CT.sub (.tl .refl) ?_
    refine CT.seq ?_
    refine CT.region ?_
    refine TL.val (r_move (.t m2)) ?_
    refine TL.val (r_move (.t m3)) ?_
    refine TL.val (r_nil (.t m1)) ?_
    refine TL.val (r_fa (off' := 1038) fo_98_1 (.t m0)) ?_
    refine TL.s (r_st (F' := D ⟨s.r, s.rBuf, (s.roff), (s.b), (s.nb), s.H, s.bits, s.cbits, (.slice (some ⟨hb, 0, none⟩) (32768) (32768)), 0, (s.wr), (s.full), (s.b0), (s.b1), (s.b2), (s.b3), s.step, (s.ss), (s.final), s.err, s.toRead, s.hl, s.hd, (s.cl), (s.cd)⟩) Tryz.sizeOf3 (Dset_wr ⟨s.r, s.rBuf, (s.roff), (s.b), (s.nb), s.H, s.bits, s.cbits, (.slice (some ⟨hb, 0, none⟩) (32768) (32768)), (s.wr), (s.wr), (s.full), (s.b0), (s.b1), (s.b2), (s.b3), s.step, (s.ss), (s.final), s.err, s.toRead, s.hl, s.hd, (s.cl), (s.cd)⟩ 0) a0 (.t m0) .c (by decide)) ?_
    refine TL.val (r_nil (.t m2)) ?_
    refine TL.val (r_fa (off' := 1039) fo_98_2 (.t m0)) ?_
    refine TL.s (r_st (F' := D ⟨s.r, s.rBuf, (s.roff), (s.b), (s.nb), s.H, s.bits, s.cbits, (.slice (some ⟨hb, 0, none⟩) (32768) (32768)), 0, 0, (s.full), (s.b0), (s.b1), (s.b2), (s.b3), s.step, (s.ss), (s.final), s.err, s.toRead, s.hl, s.hd, (s.cl), (s.cd)⟩) Tryz.sizeOf3 (Dset_rd ⟨s.r, s.rBuf, (s.roff), (s.b), (s.nb), s.H, s.bits, s.cbits, (.slice (some ⟨hb, 0, none⟩) (32768) (32768)), 0, (s.wr), (s.full), (s.b0), (s.b1), (s.b2), (s.b3), s.step, (s.ss), (s.final), s.err, s.toRead, s.hl, s.hd, (s.cl), (s.cd)⟩ 0) a0 (.t m0) .c (by decide)) ?_
    refine TL.sub (.tl (.tl (.tl (.tl (.tl (.tl .refl)))))) ?_
    refine TL.nil ?_
    refine EX.seq ?_
    refine CT.region ?_
    refine TL.val (r_move (.t m2)) ?_
    refine TL.val (r_nil (.t m0)) ?_
    refine TL.val (r_fa (off' := 1040) fo_98_3 (.t m0)) ?_
    refine TL.s (r_st (F' := D ⟨s.r, s.rBuf, (s.roff), (s.b), (s.nb), s.H, s.bits, s.cbits, (.slice (some ⟨hb, 0, none⟩) (32768) (32768)), 0, 0, true, (s.b0), (s.b1), (s.b2), (s.b3), s.step, (s.ss), (s.final), s.err, s.toRead, s.hl, s.hd, (s.cl), (s.cd)⟩) Tryz.sizeOf4 (Dset_full ⟨s.r, s.rBuf, (s.roff), (s.b), (s.nb), s.H, s.bits, s.cbits, (.slice (some ⟨hb, 0, none⟩) (32768) (32768)), 0, 0, (s.full), (s.b0), (s.b1), (s.b2), (s.b3), s.step, (s.ss), (s.final), s.err, s.toRead, s.hl, s.hd, (s.cl), (s.cd)⟩ true) a0 (.t m0) .c (by decide)) ?_
    refine TL.sub (.tl (.tl (.tl .refl))) ?_
    refine TL.nil ?_
    refine EX.seq ?_
    refine CT.seq ?_
    refine CT.region ?_
    refine TL.val (r_move (.t m0)) ?_
    refine TL.rm (.there (.there .here)) ?_
    refine TL.val (r_asg (.t m0)) ?_
    refine TL.sub (.hd (.tl (.tl .refl))) ?_
    refine TL.nil ?_
    refine EX.seq ?_
    refine CT.ret ?_
    exact EX.end_ (.inl rfl) (res1 Tryz.results108 m0) (fun _ hS => ⟨rfl, hS.D (by simp [c33])⟩)
  ·
    refine CT.sub (.tl .refl) ?_
    refine CT.skip ?_
    refine EX.seq ?_
    refine CT.seq ?_
    refine CT.region ?_
    refine TL.val (r_move (.t m0)) ?_
    refine TL.rm (.there (.there .here)) ?_
    refine TL.val (r_asg (.t m0)) ?_
    refine TL.sub (.hd (.tl (.tl .refl))) ?_
    refine TL.nil ?_
    refine EX.seq ?_
    refine CT.ret ?_
    exact EX.end_ (.inl rfl) (res1 Tryz.results108 m0) (fun _ hS => ⟨rfl, hS.D (by have hm : s.wr % 32768 = s.wr := Nat.mod_eq_of_lt (by omega); simp [c33, hm])⟩)
end Go.Eng
