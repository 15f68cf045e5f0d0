/- The walks of one more byte of bits, and of the end of a block. -/
import Derived.Test.YtkpadembffdepaaGreatDoorGe
import Derived.Test.YtkpadembffdepaaGreatDoorBd
namespace Go.Eng
open Go Go.Proofs Go.Infl
set_option maxRecDepth 20000
set_option linter.unusedSimpArgs false
set_option linter.unusedVariables false


theorem shl_lt {B : List Bool} {i k : Nat} (h : k ≤ 24) : byteAt B i * 2 ^ k < 4294967296 := by
  have h1 : 2 ^ k ≤ 16777216 := Nat.pow_le_pow_right (by decide) h
  have h2 := byteAt_lt B i
  calc byteAt B i * 2 ^ k ≤ 255 * 16777216 := Nat.mul_le_mul (by omega) h1
    _ < _ := by decide
/-- The end of a stream is told by this pointer. -/
def EOFIs (G : World) (ea : Addr) : Prop := G.cell? ⟨0, 0, none⟩ = some (.iface 187 (.pointer (some ea)))
/-- A decompressor behind the end of a block. -/
def finS (s : DS) (hb : Nat) (eof : Value) : DS :=
  if s.final = true then (if s.rd < s.wr then { s with toRead := .slice (some ⟨hb, s.rd, none⟩) (s.wr - s.rd) (32768 - s.rd), wr := s.wr % 32768, rd := s.wr % 32768, full := s.full || decide (s.wr = 32768), err := eof, step := .func (.func 68) #[] #[] }
    else { s with err := eof, step := .func (.func 68) #[] #[] })
  else { s with step := .func (.func 68) #[] #[] }
theorem t86 (f r i : Nat) (B : List Bool) (s : DS) (hi : i < (pack B).length) (hl : (pack B).length < 9223372036854775807) (h1 : s.roff < 9223372036854775807) (h2 : s.b < 4294967296) (h3 : s.nb ≤ 24) {G : World} {R : List HProp} {w : World} (hS : Sat G w ((blk f 1054 (D ⟨(.iface 49 (.pointer (some ⟨r, 0, none⟩))), s.rBuf, (s.roff), (s.b), (s.nb), s.H, s.bits, s.cbits, s.hist, (s.wr), (s.rd), (s.full), (s.b0), (s.b1), (s.b2), (s.b3), s.step, (s.ss), (s.final), s.err, s.toRead, s.hl, s.hd, (s.cl), (s.cd)⟩)) :: (Br r B (i)) :: R)) :
    CallsR Tryz.prog 86 #[(.pointer (some ⟨f, 0, none⟩))] w (fun v w' => v = .nilIface ∧ Sat G w' ((blk f 1054 (D ⟨(.iface 49 (.pointer (some ⟨r, 0, none⟩))), s.rBuf, ((s.roff + 1)), ((s.b ||| byteAt B i * 2 ^ s.nb)), ((s.nb + 8)), s.H, s.bits, s.cbits, s.hist, (s.wr), (s.rd), (s.full), (s.b0), (s.b1), (s.b2), (s.b3), s.step, (s.ss), (s.final), s.err, s.toRead, s.hl, s.hd, (s.cl), (s.cd)⟩)) :: Br r B (i + 1) :: R)) := by
  have hbl := byteAt_lt B i
  refine calls_in (n := 45) [(0, (.pointer (some ⟨f, 0, none⟩)))] Tryz.func86 rfl rfl hS args1 ?_
  refine CT.seq ?_
  refine CT.region ?_
  refine TL.val (r_asg .c) ?_
  refine TL.nil ?_
  refine EX.seq ?_
  refine CT.seq ?_
  refine CT.region ?_
  refine TL.val (r_move (.t m1)) ?_
  refine TL.val (r_nil (.t m0)) ?_
  refine TL.val (r_fa (off' := 0) fo_103_0 (.t m0)) ?_
  refine TL.val (r_ld (v := (.iface 49 (.pointer (some ⟨r, 0, none⟩)))) Tryz.isAgg87 m0 (.t m0) (by decide) (Dget_r _)) ?_
  refine TL.perm p1 ?_
  refine TL.call (r_inv ce_147 (.t m0) (mt_49_ReadByte _) .nil) (fun w hS => t147 r (i) B (by omega) (by omega) hS) ?_
  rintro _ w10 ⟨rfl, hS⟩
  refine TW.at hS ?_
  refine TL.val (r_move (.t m0)) ?_
  refine TL.val (r_ext (.t m0)) ?_
  refine TL.val (r_ext (.t m1)) ?_
  refine TL.val (r_asg (.t m1)) ?_
  refine TL.val (r_asg (.t m1)) ?_
  refine TL.sub (.hd (.hd (.tl (.tl (.tl (.tl (.tl (.tl (.tl (.tl .refl)))))))))) ?_
  refine TL.nil ?_
  refine EX.seq ?_
  refine CT.seq ?_
  refine CT.seq ?_
  refine CT.region ?_
  refine TL.val (r_move (.t m0)) ?_
  refine TL.val (r_nen Tryz.underlying82 (.t m0)) ?_
  refine TL.sub (.hd (.tl .refl)) ?_
  refine TL.nil ?_
  refine EX.seq ?_
  refine CT.iff_ m0 ?_
  refine CT.sub (.tl .refl) ?_
  refine CT.skip ?_
  refine EX.seq ?_
  refine CT.seq ?_
  refine CT.region ?_
  refine TL.val (r_move (.t m3)) ?_
  refine TL.val (r_nil (.t m0)) ?_
  refine TL.val (r_fa (off' := 2) fo_103_2 (.t m0)) ?_
  refine TL.val (r_ld (v := (.int .i64 ((s.roff : Nat) : Int))) Tryz.isAgg2 m1 (.t m0) (by decide) (Dget_roff _)) ?_
  refine TL.val (n_add (s.roff) (1) 9223372036854775808 (.t m0) .c rfl rfl (by omega)) ?_
  refine TL.val (r_nil (.t m4)) ?_
  refine TL.val (r_fa (off' := 2) fo_103_2 (.t m0)) ?_
  refine TL.s (r_st (F' := D ⟨(.iface 49 (.pointer (some ⟨r, 0, none⟩))), s.rBuf, ((s.roff + 1)), (s.b), (s.nb), s.H, s.bits, s.cbits, s.hist, (s.wr), (s.rd), (s.full), (s.b0), (s.b1), (s.b2), (s.b3), s.step, (s.ss), (s.final), s.err, s.toRead, s.hl, s.hd, (s.cl), (s.cd)⟩) Tryz.sizeOf2 (Dset_roff ⟨(.iface 49 (.pointer (some ⟨r, 0, none⟩))), s.rBuf, (s.roff), (s.b), (s.nb), s.H, s.bits, s.cbits, s.hist, (s.wr), (s.rd), (s.full), (s.b0), (s.b1), (s.b2), (s.b3), s.step, (s.ss), (s.final), s.err, s.toRead, s.hl, s.hd, (s.cl), (s.cd)⟩ ((s.roff + 1))) a1 (.t m0) (.t m2) (by decide)) ?_
  refine TL.sub (.tl (.tl (.tl (.tl (.tl (.tl (.tl .refl))))))) ?_
  refine TL.nil ?_
  refine EX.seq ?_
  refine CT.seq ?_
  have hb8 : byteAt B i * 2 ^ s.nb < 4294967296 := shl_lt h3
  refine CT.draw 14 fm (by kernel_rfl) ?_
  refine TS.val (r_move (.t m3)) ?_
  refine TS.val (r_nil (.t m0)) ?_
  refine TS.val (r_fa (off' := 3) fo_103_3 (.t m0)) ?_
  refine TS.val (r_ld (v := (.int .u32 ((s.b : Nat) : Int))) Tryz.isAgg89 m1 (.t m0) (by decide) (Dget_b _)) ?_
  refine TS.val (r_move (.t m5)) ?_
  refine TS.val (n_conv ((byteAt B (i))) 4294967296 ⟨_, Tryz.underlying5⟩ Tryz.underlying89 (.t m0) rfl (by have := byteAt_lt B i; omega)) ?_
  refine TS.val (r_move (.t m9)) ?_
  refine TS.val (r_nil (.t m0)) ?_
  refine TS.val (r_fa (off' := 4) fo_103_4 (.t m0)) ?_
  refine TS.val (r_ld (v := (.int .u64 ((s.nb : Nat) : Int))) Tryz.isAgg90 m1 (.t m0) (by decide) (Dget_nb _)) ?_
  refine TS.val (n_shl ((byteAt B (i))) (s.nb) 4294967296 (.t m4) (.t m0) rfl rfl (show _ ≤ 32 by omega) (by omega)) ?_
  refine TS.val (n_or (s.b) (((byteAt B (i)) * 2 ^ s.nb)) 4294967296 (.t m7) (.t m0) rfl rfl (by omega) (by omega)) ?_
  refine TS.val (r_nil (.t m11)) ?_
  refine TS.val (r_fa (off' := 3) fo_103_3 (.t m0)) ?_
  refine TS.nil ?_
  refine TL.s (r_st (F' := D ⟨(.iface 49 (.pointer (some ⟨r, 0, none⟩))), s.rBuf, ((s.roff + 1)), ((s.b ||| ((byteAt B (i)) * 2 ^ s.nb))), (s.nb), s.H, s.bits, s.cbits, s.hist, (s.wr), (s.rd), (s.full), (s.b0), (s.b1), (s.b2), (s.b3), s.step, (s.ss), (s.final), s.err, s.toRead, s.hl, s.hd, (s.cl), (s.cd)⟩) Tryz.sizeOf89 (Dset_b ⟨(.iface 49 (.pointer (some ⟨r, 0, none⟩))), s.rBuf, ((s.roff + 1)), (s.b), (s.nb), s.H, s.bits, s.cbits, s.hist, (s.wr), (s.rd), (s.full), (s.b0), (s.b1), (s.b2), (s.b3), s.step, (s.ss), (s.final), s.err, s.toRead, s.hl, s.hd, (s.cl), (s.cd)⟩ ((s.b ||| ((byteAt B (i)) * 2 ^ s.nb)))) a1 (.t m0) (.t m2) (by decide)) ?_
  refine TL.sub (.tl (.tl (.tl (.tl (.tl (.tl (.tl (.tl (.tl (.tl (.tl (.tl (.tl (.tl (.hd (.tl .refl)))))))))))))))) ?_
  refine TL.nil ?_
  refine EX.seq ?_
  refine CT.seq ?_
  refine CT.region ?_
  refine TL.val (r_move (.t m2)) ?_
  refine TL.val (r_nil (.t m0)) ?_
  refine TL.val (r_fa (off' := 4) fo_103_4 (.t m0)) ?_
  refine TL.val (r_ld (v := (.int .u64 ((s.nb : Nat) : Int))) Tryz.isAgg90 m1 (.t m0) (by decide) (Dget_nb _)) ?_
  refine TL.val (n_add (s.nb) (8) 18446744073709551616 (.t m0) .c rfl rfl (by omega)) ?_
  refine TL.val (r_nil (.t m4)) ?_
  refine TL.val (r_fa (off' := 4) fo_103_4 (.t m0)) ?_
  refine TL.s (r_st (F' := D ⟨(.iface 49 (.pointer (some ⟨r, 0, none⟩))), s.rBuf, ((s.roff + 1)), ((s.b ||| ((byteAt B (i)) * 2 ^ s.nb))), ((s.nb + 8)), s.H, s.bits, s.cbits, s.hist, (s.wr), (s.rd), (s.full), (s.b0), (s.b1), (s.b2), (s.b3), s.step, (s.ss), (s.final), s.err, s.toRead, s.hl, s.hd, (s.cl), (s.cd)⟩) Tryz.sizeOf90 (Dset_nb ⟨(.iface 49 (.pointer (some ⟨r, 0, none⟩))), s.rBuf, ((s.roff + 1)), ((s.b ||| ((byteAt B (i)) * 2 ^ s.nb))), (s.nb), s.H, s.bits, s.cbits, s.hist, (s.wr), (s.rd), (s.full), (s.b0), (s.b1), (s.b2), (s.b3), s.step, (s.ss), (s.final), s.err, s.toRead, s.hl, s.hd, (s.cl), (s.cd)⟩ ((s.nb + 8))) a1 (.t m0) (.t m2) (by decide)) ?_
  refine TL.sub (.tl (.tl (.tl (.tl (.tl (.tl (.tl .refl))))))) ?_
  refine TL.nil ?_
  refine EX.seq ?_
  refine CT.seq ?_
  refine CT.region ?_
  refine TL.rm (.there .here) ?_
  refine TL.val (r_asg .c) ?_
  refine TL.nil ?_
  refine EX.seq ?_
  refine CT.ret ?_
  refine EX.perm p1 ?_
  exact EX.end_ (.inl rfl) (res1 Tryz.results86 m0) (fun _ hS => ⟨rfl, hS⟩)
theorem t109 {G : World} (f hb : Nat) (s : DS) {ea : Addr} (h1 : s.rd ≤ s.wr) (h2 : s.wr < 32768) (hE : EOFIs G ea) {R : List HProp} {w : World} (hS : Sat G w ((blk f 1054 (D ⟨s.r, s.rBuf, (s.roff), (s.b), (s.nb), s.H, s.bits, s.cbits, (.slice (some ⟨hb, 0, none⟩) (32768) (32768)), (s.wr), (s.rd), (s.full), (s.b0), (s.b1), (s.b2), (s.b3), s.step, (s.ss), (s.final), s.err, s.toRead, s.hl, s.hd, (s.cl), (s.cd)⟩)) :: R)) :
    CallsR Tryz.prog 109 #[(.pointer (some ⟨f, 0, none⟩))] w (fun v w' => v = .tuple #[] ∧ Sat G w' (blk f 1054 (D (finS ⟨s.r, s.rBuf, (s.roff), (s.b), (s.nb), s.H, s.bits, s.cbits, (.slice (some ⟨hb, 0, none⟩) (32768) (32768)), (s.wr), (s.rd), (s.full), (s.b0), (s.b1), (s.b2), (s.b3), s.step, (s.ss), (s.final), s.err, s.toRead, s.hl, s.hd, (s.cl), (s.cd)⟩ hb (.iface 187 (.pointer (some ea))))) :: R)) := by
  refine calls_in (n := 25) [(0, (.pointer (some ⟨f, 0, none⟩)))] Tryz.func109 rfl rfl hS args1 ?_
  refine CT.seq ?_
  refine CT.seq ?_
  refine CT.region ?_
  refine TL.val (r_move (.t m0)) ?_
  refine TL.val (r_nil (.t m0)) ?_
  refine TL.val (r_fa (off' := 1047) fo_103_13 (.t m0)) ?_
  refine TL.val (r_ld (v := (.bool s.final)) Tryz.isAgg4 m0 (.t m0) (by decide) (Dget_final _)) ?_
  refine TL.sub (.hd (.tl (.tl (.tl .refl)))) ?_
  refine TL.nil ?_
  refine EX.seq ?_
  refine CT.iff m0 (fun c5 => ?_) (fun c5 => ?_)
  ·
    refine CT.sub (.tl .refl) ?_
    refine CT.seq ?_
    refine CT.seq ?_
    refine CT.region ?_
    refine TL.val (r_move (.t m0)) ?_
    refine TL.val (r_nil (.t m0)) ?_
    refine TL.val (r_fa (off' := 1037) fo_103_9 (.t m0)) ?_
    refine TL.call (r_call ce_124 (.cons (.t m0) .nil)) (fun w hS => t124 f hb ⟨s.r, s.rBuf, (s.roff), (s.b), (s.nb), s.H, s.bits, s.cbits, (.slice (some ⟨hb, 0, none⟩) (32768) (32768)), (s.wr), (s.rd), (s.full), (s.b0), (s.b1), (s.b2), (s.b3), s.step, (s.ss), (s.final), s.err, s.toRead, s.hl, s.hd, (s.cl), (s.cd)⟩ (by show s.wr ≤ 32768; omega) (by show s.rd ≤ s.wr; omega) hS) ?_
    rintro z9 w9 ⟨hz9, hS⟩
    replace hz9 : z9 = (.int .i64 (((s.wr - s.rd) : Nat) : Int)) := hz9
    subst hz9
    replace hS : Sat G w9 ((blk f 1054 (D ⟨s.r, s.rBuf, (s.roff), (s.b), (s.nb), s.H, s.bits, s.cbits, (.slice (some ⟨hb, 0, none⟩) (32768) (32768)), (s.wr), (s.rd), (s.full), (s.b0), (s.b1), (s.b2), (s.b3), s.step, (s.ss), (s.final), s.err, s.toRead, s.hl, s.hd, (s.cl), (s.cd)⟩)) :: R) := hS
    refine TW.at hS ?_
    refine TL.val (n_gtr ((s.wr - s.rd)) (0) (.t m0) .c rfl rfl) ?_
    refine TL.sub (.hd (.tl (.tl (.tl (.tl .refl))))) ?_
    refine TL.nil ?_
    refine EX.seq ?_
    refine CT.ifd m0 (fun c10 => ?_) (fun c10 => ?_)
    ·
      have h10 : s.rd < s.wr := by omega
      refine CT.sub (.tl .refl) ?_
      refine CT.region ?_
      refine TL.val (r_move (.t m0)) ?_
      refine TL.val (r_move (.t m1)) ?_
      refine TL.val (r_nil (.t m0)) ?_
      refine TL.val (r_fa (off' := 1037) fo_103_9 (.t m0)) ?_
      refine TL.call (r_call ce_108 (.cons (.t m0) .nil)) (fun w hS => t108 f hb ⟨s.r, s.rBuf, (s.roff), (s.b), (s.nb), s.H, s.bits, s.cbits, (.slice (some ⟨hb, 0, none⟩) (32768) (32768)), (s.wr), (s.rd), (s.full), (s.b0), (s.b1), (s.b2), (s.b3), s.step, (s.ss), (s.final), s.err, s.toRead, s.hl, s.hd, (s.cl), (s.cd)⟩ (by show s.rd ≤ s.wr; omega) (by show s.wr ≤ 32768; omega) (by show s.rd < 32768; omega) hS) ?_
      rintro z15 w15 ⟨hz15, hS⟩
      replace hz15 : z15 = (.slice (some ⟨hb, s.rd, none⟩) ((s.wr - s.rd)) ((32768 - s.rd))) := hz15
      subst hz15
      replace hS : Sat G w15 ((blk f 1054 (D ⟨s.r, s.rBuf, (s.roff), (s.b), (s.nb), s.H, s.bits, s.cbits, (.slice (some ⟨hb, 0, none⟩) (32768) (32768)), ((s.wr % 32768)), ((s.wr % 32768)), ((s.full) || decide (s.wr = 32768)), (s.b0), (s.b1), (s.b2), (s.b3), s.step, (s.ss), (s.final), s.err, s.toRead, s.hl, s.hd, (s.cl), (s.cd)⟩)) :: R) := hS
      refine TW.at hS ?_
      refine TL.val (r_nil (.t m4)) ?_
      refine TL.val (r_fa (off' := 1049) fo_103_15 (.t m0)) ?_
      refine TL.s (r_st (F' := D ⟨s.r, s.rBuf, (s.roff), (s.b), (s.nb), s.H, s.bits, s.cbits, (.slice (some ⟨hb, 0, none⟩) (32768) (32768)), ((s.wr % 32768)), ((s.wr % 32768)), ((s.full) || decide (s.wr = 32768)), (s.b0), (s.b1), (s.b2), (s.b3), s.step, (s.ss), (s.final), s.err, (.slice (some ⟨hb, s.rd, none⟩) ((s.wr - s.rd)) ((32768 - s.rd))), s.hl, s.hd, (s.cl), (s.cd)⟩) Tryz.sizeOf22 (Dset_toRead ⟨s.r, s.rBuf, (s.roff), (s.b), (s.nb), s.H, s.bits, s.cbits, (.slice (some ⟨hb, 0, none⟩) (32768) (32768)), ((s.wr % 32768)), ((s.wr % 32768)), ((s.full) || decide (s.wr = 32768)), (s.b0), (s.b1), (s.b2), (s.b3), s.step, (s.ss), (s.final), s.err, s.toRead, s.hl, s.hd, (s.cl), (s.cd)⟩ (.slice (some ⟨hb, s.rd, none⟩) ((s.wr - s.rd)) ((32768 - s.rd)))) a0 (.t m0) (.t m2) (by decide)) ?_
      refine TL.sub (.tl (.tl (.tl (.tl (.tl (.tl (.tl .refl))))))) ?_
      refine TL.nil ?_
      refine EX.seq ?_
      refine CT.region ?_
      refine TL.val (r_move (.t m0)) ?_
      refine TL.val (r_ldc (v := (.iface 187 (.pointer (some ea)))) Tryz.isAgg82 .g (fun w hS => hS.base_some hE)) ?_
      refine TL.val (r_nil (.t m1)) ?_
      refine TL.val (r_fa (off' := 1048) fo_103_14 (.t m0)) ?_
      refine TL.s (r_st (F' := D ⟨s.r, s.rBuf, (s.roff), (s.b), (s.nb), s.H, s.bits, s.cbits, (.slice (some ⟨hb, 0, none⟩) (32768) (32768)), ((s.wr % 32768)), ((s.wr % 32768)), ((s.full) || decide (s.wr = 32768)), (s.b0), (s.b1), (s.b2), (s.b3), s.step, (s.ss), (s.final), (.iface 187 (.pointer (some ea))), (.slice (some ⟨hb, s.rd, none⟩) ((s.wr - s.rd)) ((32768 - s.rd))), s.hl, s.hd, (s.cl), (s.cd)⟩) Tryz.sizeOf82 (Dset_err ⟨s.r, s.rBuf, (s.roff), (s.b), (s.nb), s.H, s.bits, s.cbits, (.slice (some ⟨hb, 0, none⟩) (32768) (32768)), ((s.wr % 32768)), ((s.wr % 32768)), ((s.full) || decide (s.wr = 32768)), (s.b0), (s.b1), (s.b2), (s.b3), s.step, (s.ss), (s.final), s.err, (.slice (some ⟨hb, s.rd, none⟩) ((s.wr - s.rd)) ((32768 - s.rd))), s.hl, s.hd, (s.cl), (s.cd)⟩ (.iface 187 (.pointer (some ea)))) a0 (.t m0) (.t m2) (by decide)) ?_
      refine TL.sub (.tl (.tl (.tl (.tl .refl)))) ?_
      refine TL.nil ?_
      refine EX.seq ?_
      refine CT.region ?_
      refine TL.val (r_move (.t m0)) ?_
      refine TL.val (r_nil (.t m0)) ?_
      refine TL.val (r_fa (off' := 1045) fo_103_11 (.t m0)) ?_
      refine TL.s (r_st (F' := D ⟨s.r, s.rBuf, (s.roff), (s.b), (s.nb), s.H, s.bits, s.cbits, (.slice (some ⟨hb, 0, none⟩) (32768) (32768)), ((s.wr % 32768)), ((s.wr % 32768)), ((s.full) || decide (s.wr = 32768)), (s.b0), (s.b1), (s.b2), (s.b3), (.func (.func 68) #[] #[]), (s.ss), (s.final), (.iface 187 (.pointer (some ea))), (.slice (some ⟨hb, s.rd, none⟩) ((s.wr - s.rd)) ((32768 - s.rd))), s.hl, s.hd, (s.cl), (s.cd)⟩) Tryz.sizeOf100 (Dset_step ⟨s.r, s.rBuf, (s.roff), (s.b), (s.nb), s.H, s.bits, s.cbits, (.slice (some ⟨hb, 0, none⟩) (32768) (32768)), ((s.wr % 32768)), ((s.wr % 32768)), ((s.full) || decide (s.wr = 32768)), (s.b0), (s.b1), (s.b2), (s.b3), s.step, (s.ss), (s.final), (.iface 187 (.pointer (some ea))), (.slice (some ⟨hb, s.rd, none⟩) ((s.wr - s.rd)) ((32768 - s.rd))), s.hl, s.hd, (s.cl), (s.cd)⟩ (.func (.func 68) #[] #[])) a0 (.t m0) .f (by decide)) ?_
      refine TL.sub (.tl (.tl (.tl .refl))) ?_
      refine TL.nil ?_
      exact EX.end_ (.inr rfl) (res0 Tryz.results109) (fun _ hS => ⟨rfl, hS.D (by simp [finS, c5, h10])⟩)
    ·
      have h10 : ¬ s.rd < s.wr := by omega
      refine CT.sub (.tl .refl) ?_
      refine CT.skip ?_
      refine EX.seq ?_
      refine CT.region ?_
      refine TL.val (r_move (.t m0)) ?_
      refine TL.val (r_ldc (v := (.iface 187 (.pointer (some ea)))) Tryz.isAgg82 .g (fun w hS => hS.base_some hE)) ?_
      refine TL.val (r_nil (.t m1)) ?_
      refine TL.val (r_fa (off' := 1048) fo_103_14 (.t m0)) ?_
      refine TL.s (r_st (F' := D ⟨s.r, s.rBuf, (s.roff), (s.b), (s.nb), s.H, s.bits, s.cbits, (.slice (some ⟨hb, 0, none⟩) (32768) (32768)), (s.wr), (s.rd), (s.full), (s.b0), (s.b1), (s.b2), (s.b3), s.step, (s.ss), (s.final), (.iface 187 (.pointer (some ea))), s.toRead, s.hl, s.hd, (s.cl), (s.cd)⟩) Tryz.sizeOf82 (Dset_err ⟨s.r, s.rBuf, (s.roff), (s.b), (s.nb), s.H, s.bits, s.cbits, (.slice (some ⟨hb, 0, none⟩) (32768) (32768)), (s.wr), (s.rd), (s.full), (s.b0), (s.b1), (s.b2), (s.b3), s.step, (s.ss), (s.final), s.err, s.toRead, s.hl, s.hd, (s.cl), (s.cd)⟩ (.iface 187 (.pointer (some ea)))) a0 (.t m0) (.t m2) (by decide)) ?_
      refine TL.sub (.tl (.tl (.tl (.tl .refl)))) ?_
      refine TL.nil ?_
      refine EX.seq ?_
      refine CT.region ?_
      refine TL.val (r_move (.t m0)) ?_
      refine TL.val (r_nil (.t m0)) ?_
      refine TL.val (r_fa (off' := 1045) fo_103_11 (.t m0)) ?_
      refine TL.s (r_st (F' := D ⟨s.r, s.rBuf, (s.roff), (s.b), (s.nb), s.H, s.bits, s.cbits, (.slice (some ⟨hb, 0, none⟩) (32768) (32768)), (s.wr), (s.rd), (s.full), (s.b0), (s.b1), (s.b2), (s.b3), (.func (.func 68) #[] #[]), (s.ss), (s.final), (.iface 187 (.pointer (some ea))), s.toRead, s.hl, s.hd, (s.cl), (s.cd)⟩) Tryz.sizeOf100 (Dset_step ⟨s.r, s.rBuf, (s.roff), (s.b), (s.nb), s.H, s.bits, s.cbits, (.slice (some ⟨hb, 0, none⟩) (32768) (32768)), (s.wr), (s.rd), (s.full), (s.b0), (s.b1), (s.b2), (s.b3), s.step, (s.ss), (s.final), (.iface 187 (.pointer (some ea))), s.toRead, s.hl, s.hd, (s.cl), (s.cd)⟩ (.func (.func 68) #[] #[])) a0 (.t m0) .f (by decide)) ?_
      refine TL.sub (.tl (.tl (.tl .refl))) ?_
      refine TL.nil ?_
      exact EX.end_ (.inr rfl) (res0 Tryz.results109) (fun _ hS => ⟨rfl, hS.D (by simp [finS, c5, h10])⟩)
  ·
    refine CT.sub (.tl .refl) ?_
    refine CT.skip ?_
    refine EX.seq ?_
    refine CT.region ?_
    refine TL.val (r_move (.t m0)) ?_
    refine TL.val (r_nil (.t m0)) ?_
    refine TL.val (r_fa (off' := 1045) fo_103_11 (.t m0)) ?_
    refine TL.s (r_st (F' := D ⟨s.r, s.rBuf, (s.roff), (s.b), (s.nb), s.H, s.bits, s.cbits, (.slice (some ⟨hb, 0, none⟩) (32768) (32768)), (s.wr), (s.rd), (s.full), (s.b0), (s.b1), (s.b2), (s.b3), (.func (.func 68) #[] #[]), (s.ss), (s.final), s.err, s.toRead, s.hl, s.hd, (s.cl), (s.cd)⟩) Tryz.sizeOf100 (Dset_step ⟨s.r, s.rBuf, (s.roff), (s.b), (s.nb), s.H, s.bits, s.cbits, (.slice (some ⟨hb, 0, none⟩) (32768) (32768)), (s.wr), (s.rd), (s.full), (s.b0), (s.b1), (s.b2), (s.b3), s.step, (s.ss), (s.final), s.err, s.toRead, s.hl, s.hd, (s.cl), (s.cd)⟩ (.func (.func 68) #[] #[])) a0 (.t m0) .f (by decide)) ?_
    refine TL.sub (.tl (.tl (.tl .refl))) ?_
    refine TL.nil ?_
    exact EX.end_ (.inr rfl) (res0 Tryz.results109) (fun _ hS => ⟨rfl, hS.D (by simp [finS, c5])⟩)
end Go.Eng
