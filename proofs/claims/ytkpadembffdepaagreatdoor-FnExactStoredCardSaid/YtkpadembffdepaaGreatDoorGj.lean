/- The walk of a stored block. -/
import Derived.Test.YtkpadembffdepaaGreatDoorGi
namespace Go.Eng
open Go Go.Proofs Go.Infl
set_option maxRecDepth 20000
set_option linter.unusedSimpArgs false
set_option linter.unusedVariables false


theorem data_zero {G w : World} {R : List HProp} {f r hb i : Nat} {B : List Bool} {hF del un xs : List Nat} {ea : Addr} {s : DS} {hist : Nat → Nat} {rest : List Bool} {mu0 c0 c1 c2 c3 : Nat}
    (H : Base r hb B s i hist (del ++ un)) (hu : un.length = s.wr - s.rd) (herr : s.err = .nilIface) (hd : B.drop (8 * (i + 4)) = xs.flatMap (nbits 8) ++ rest) (hx0 : xs = []) (ha : After s.final (8 * (i + 4) + 8 * xs.length) rest (del ++ un ++ xs) hF) (hl : 8 * i + 32 ≤ B.length) (hmu : 1000 * (B.length - 8 * i) ≤ mu0)
    (hS : Sat G w (blk f 1054 (D (finS { s with r := .iface 49 (.pointer (some ⟨r, 0, none⟩)), hist := .slice (some ⟨hb, 0, none⟩) 32768 32768, err := .nilIface, roff := s.roff + 4, b := 0, nb := 0, b0 := c0, b1 := c1, b2 := c2, b3 := c3, wr := s.wr % 32768, rd := s.wr % 32768, full := s.full || decide (s.wr = 32768), toRead := .slice (some ⟨hb, s.rd, none⟩) (s.wr - s.rd) (32768 - s.rd) } hb (.iface 187 (.pointer (some ea))))) ::
      Br r B (i + 4) :: blk hb 32768 (fun j => u8 (hist j)) :: R)) : RS G R f r hb B hF (.iface 187 (.pointer (some ea))) del (· < mu0) w := by
  subst hx0
  rw [List.append_nil, List.length_nil, Nat.mul_zero, Nat.add_zero] at ha
  have h1 := H.rw_; have h2 := H.wl; have h3 := H.ro; have h4 := H.il
  have hpl := pack_length B
  have htr : TR hb hist (.slice (some ⟨hb, s.rd, none⟩) (s.wr - s.rd) (32768 - s.rd)) un := .inr ⟨s.rd, 32768 - s.rd, by rw [hu], by omega, by omega, H.win.tail H.rw_ hu⟩
  cases hfin : s.final with
  | false =>
    rw [show finS _ hb _ = _ from if_neg (by simp [hfin])] at hS
    obtain ⟨st, tail, e1, e2⟩ := ha.2 hfin
    refine ⟨_, i + 4, hist, del ++ un, un, [], ⟨rfl, rfl, H.win.flush, Nat.le_refl _, Nat.mod_lt _ (by decide), by show s.roff + 4 = i + 4; omega, by omega⟩, by rw [List.append_nil], (Nat.sub_self _).symm, htr, .inl ⟨rfl, 1000 * (B.length - 8 * (i + 4)), by show _ < mu0; omega, plEmp ?_ hS⟩⟩
    intro m'
    exact .blk (k := 8 * (i + 4)) (st := st) (tail := tail) rfl (Nat.zero_le _) Held.zero (by rw [hd]; exact e1) e2 rfl
  | true =>
    rw [show finS _ hb _ = _ from if_pos (by simp [hfin])] at hS
    rw [if_neg (Nat.lt_irrefl _)] at hS
    exact ⟨_, i + 4, hist, del ++ un, un, [], ⟨rfl, rfl, H.win.flush, Nat.le_refl _, Nat.mod_lt _ (by decide), by show s.roff + 4 = i + 4; omega, by omega⟩, by rw [List.append_nil], (Nat.sub_self _).symm, htr, .inr ⟨rfl, ha.1 hfin, rfl, hS⟩⟩
theorem t87 {G : World} {R : List HProp} {w : World} {f r hb i : Nat} {B : List Bool} {hF del un xs : List Nat} {ea : Addr} {s : DS} {hist : Nat → Nat} {rest : List Bool} {mu0 : Nat} (hE : EOFIs G ea) (hBl : B.length < 1099511627776) (H : Base r hb B s i hist (del ++ un)) (hu : un.length = s.wr - s.rd) (htr : TR hb hist s.toRead []) (herr : s.err = .nilIface) (hxl : xs.length ≤ 65535) (hx : ∀ x ∈ xs, x < 256) (hd : B.drop (8 * i) = nbits 16 xs.length ++ (nbits 16 (65535 - xs.length) ++ (xs.flatMap (nbits 8) ++ rest))) (ha : After s.final (8 * (i + 4) + 8 * xs.length) rest (del ++ un ++ xs) hF) (hmu : 1000 * (B.length - 8 * i) ≤ mu0)
    (hS : Sat G w (blk f 1054 (D s) :: Br r B i :: blk hb 32768 (fun j => u8 (hist j)) :: R)) : CallsR Tryz.prog 87 #[.pointer (some ⟨f, 0, none⟩)] w (fun _ w' => Sat G w' ((RSA f r hb B hF (.iface 187 (.pointer (some ea))) del (· < mu0)) :: R)) := by
  have hlen := congrArg List.length hd
  simp only [List.length_drop, List.length_append, bits8_length, nbits_length] at hlen
  have hpl := pack_length B
  have h1 := H.rw_; have h2 := H.wl; have h3 := H.ro; have h4 := H.il
  have hd4 : B.drop (8 * (i + 4)) = xs.flatMap (nbits 8) ++ rest := by
    have e1 := drop_app hd
    have e2 := drop_app e1
    rw [nbits_length, nbits_length] at e2
    exact e2
  have h4b : ((pack B).drop i).take 4 = [(xs.length % 256), (xs.length / 256), ((65535 - xs.length) % 256), ((65535 - xs.length) / 256)] := by
    refine bytes_at (xs := [(xs.length % 256), (xs.length / 256), ((65535 - xs.length) % 256), ((65535 - xs.length) / 256)]) (m := 4) (rest := xs.flatMap (nbits 8) ++ rest) ?_ ?_ (Nat.le_refl 4)
    · rw [hd, nbits16 xs.length, nbits16 (65535 - xs.length)]; simp [List.flatMap]
    · intro x hx; simp only [List.mem_cons, List.not_mem_nil, or_false] at hx; omega
  have hs : s = ⟨(.iface 49 (.pointer (some ⟨r, 0, none⟩))), s.rBuf, (s.roff), (s.b), (s.nb), s.H, s.bits, s.cbits, (.slice (some ⟨hb, 0, none⟩) (32768) (32768)), (s.wr), (s.rd), (s.full), (s.b0), (s.b1), (s.b2), (s.b3), s.step, (s.ss), (s.final), .nilIface, s.toRead, s.hl, s.hd, (s.cl), (s.cd)⟩ := by have h5 := H.r_; have h6 := H.hi; cases s; simp_all
  replace hS := hS.D hs
  refine calls_in (n := 98) [(0, (.pointer (some ⟨f, 0, none⟩)))] Tryz.func87 rfl rfl hS args1 ?_
  refine CT.seq ?_
  refine CT.region ?_
  refine TL.val (r_move (.t m0)) ?_
  refine TL.val (r_nil (.t m0)) ?_
  refine TL.val (r_fa (off' := 4) fo_103_4 (.t m0)) ?_
  refine TL.s (r_st (F' := D ⟨(.iface 49 (.pointer (some ⟨r, 0, none⟩))), s.rBuf, (s.roff), (s.b), 0, s.H, s.bits, s.cbits, (.slice (some ⟨hb, 0, none⟩) (32768) (32768)), (s.wr), (s.rd), (s.full), (s.b0), (s.b1), (s.b2), (s.b3), s.step, (s.ss), (s.final), .nilIface, s.toRead, s.hl, s.hd, (s.cl), (s.cd)⟩) Tryz.sizeOf90 (Dset_nb ⟨(.iface 49 (.pointer (some ⟨r, 0, none⟩))), s.rBuf, (s.roff), (s.b), (s.nb), s.H, s.bits, s.cbits, (.slice (some ⟨hb, 0, none⟩) (32768) (32768)), (s.wr), (s.rd), (s.full), (s.b0), (s.b1), (s.b2), (s.b3), s.step, (s.ss), (s.final), .nilIface, s.toRead, s.hl, s.hd, (s.cl), (s.cd)⟩ 0) a0 (.t m0) .c (by decide)) ?_
  refine TL.sub (.tl (.tl (.tl .refl))) ?_
  refine TL.nil ?_
  refine EX.seq ?_
  refine CT.seq ?_
  refine CT.region ?_
  refine TL.val (r_move (.t m0)) ?_
  refine TL.val (r_nil (.t m0)) ?_
  refine TL.val (r_fa (off' := 3) fo_103_3 (.t m0)) ?_
  refine TL.s (r_st (F' := D ⟨(.iface 49 (.pointer (some ⟨r, 0, none⟩))), s.rBuf, (s.roff), 0, 0, s.H, s.bits, s.cbits, (.slice (some ⟨hb, 0, none⟩) (32768) (32768)), (s.wr), (s.rd), (s.full), (s.b0), (s.b1), (s.b2), (s.b3), s.step, (s.ss), (s.final), .nilIface, s.toRead, s.hl, s.hd, (s.cl), (s.cd)⟩) Tryz.sizeOf89 (Dset_b ⟨(.iface 49 (.pointer (some ⟨r, 0, none⟩))), s.rBuf, (s.roff), (s.b), 0, s.H, s.bits, s.cbits, (.slice (some ⟨hb, 0, none⟩) (32768) (32768)), (s.wr), (s.rd), (s.full), (s.b0), (s.b1), (s.b2), (s.b3), s.step, (s.ss), (s.final), .nilIface, s.toRead, s.hl, s.hd, (s.cl), (s.cd)⟩ 0) a0 (.t m0) .c (by decide)) ?_
  refine TL.sub (.tl (.tl (.tl .refl))) ?_
  refine TL.nil ?_
  refine EX.seq ?_
  refine CT.seq ?_
  refine CT.any fm ?_
  refine TA.take 0 rfl (by kernel_rfl) (by kernel_rfl) (by kernel_rfl) (NP.then_ NP.body) (fun G L => r_move (.t m0)) ?_
  refine TA.take 1 rfl (by kernel_rfl) (by kernel_rfl) (by kernel_rfl) (NP.then_ NP.body) (fun G L => r_nil (.t m0)) ?_
  refine TA.take 2 rfl (by kernel_rfl) (by kernel_rfl) (by kernel_rfl) (NP.then_ NP.body) (fun G L => r_fa (off' := 0) fo_103_0 (.t m0)) ?_
  refine TA.take 4 rfl (by kernel_rfl) (by kernel_rfl) (by kernel_rfl) (NP.then_ NP.body) (fun G L => r_move (.t m3)) ?_
  refine TA.take 5 rfl (by kernel_rfl) (by kernel_rfl) (by kernel_rfl) (NP.then_ NP.body) (fun G L => r_nil (.t m0)) ?_
  refine TA.take 6 rfl (by kernel_rfl) (by kernel_rfl) (by kernel_rfl) (NP.then_ NP.body) (fun G L => r_fa (off' := 1041) fo_103_10 (.t m0)) ?_
  refine TA.take 7 rfl (by kernel_rfl) (by kernel_rfl) (by kernel_rfl) (NP.then_ NP.body) (fun G L => r_slicea (off' := 1041) (m := 4) (c' := 4) Tryz.underlying99 Tryz.sizeOf5 (.t m0) (.so (j := 0) .c rfl) (.so (j := 4) .c rfl) (by decide) (by decide) (by simp) (by simp) (by simp)) ?_
  refine TA.one 3 (by kernel_rfl) ?_
  refine TO.val rfl (r_ld (v := (.iface 49 (.pointer (some ⟨r, 0, none⟩)))) Tryz.isAgg87 m0 (.t m4) (by decide) (Dget_r _)) ?_
  refine TA.one 8 (by kernel_rfl) ?_
  refine TO.perm p1 ?_
  refine TO.call rfl (r_call ce_107 (.cons (.t m0) (.cons (.t m1) .nil))) (fun w hS => t107 r (i) f (1041) (1054) (4) (4) (D ⟨(.iface 49 (.pointer (some ⟨r, 0, none⟩))), s.rBuf, (s.roff), 0, 0, s.H, s.bits, s.cbits, (.slice (some ⟨hb, 0, none⟩) (32768) (32768)), (s.wr), (s.rd), (s.full), (s.b0), (s.b1), (s.b2), (s.b3), s.step, (s.ss), (s.final), .nilIface, s.toRead, s.hl, s.hd, (s.cl), (s.cd)⟩) B (by omega) (by omega) (by decide) (by omega) hS) ?_
  rintro _ w21 ⟨rfl, hS⟩
  refine TB.at hS ?_
  refine TA.take 9 rfl (by kernel_rfl) (by kernel_rfl) (by kernel_rfl) (NP.then_ NP.body) (fun G L => r_move (.t m0)) ?_
  refine TA.take 10 rfl (by kernel_rfl) (by kernel_rfl) (by kernel_rfl) (NP.then_ NP.body) (fun G L => r_ext (.t m0)) ?_
  refine TA.take 11 rfl (by kernel_rfl) (by kernel_rfl) (by kernel_rfl) (NP.then_ NP.body) (fun G L => r_ext (.t m1)) ?_
  refine TA.take 12 rfl (by kernel_rfl) (by kernel_rfl) (by kernel_rfl) (NP.then_ NP.body) (fun G L => r_asg (.t m1)) ?_
  refine TA.take 13 rfl (by kernel_rfl) (by kernel_rfl) (by kernel_rfl) (NP.then_ NP.body) (fun G L => r_asg (.t m1)) ?_
  refine TA.done (by kernel_rfl) ?_
  refine EX.sub (.hd (.hd (.tl (.tl (.tl (.tl (.tl (.tl (.tl (.tl (.tl (.tl (.tl (.tl .refl)))))))))))))) ?_
  refine EX.seq ?_
  refine CT.seq ?_
  refine CT.fold (A' := (blk f 1054 (D ⟨(.iface 49 (.pointer (some ⟨r, 0, none⟩))), s.rBuf, (s.roff), 0, 0, s.H, s.bits, s.cbits, (.slice (some ⟨hb, 0, none⟩) (32768) (32768)), (s.wr), (s.rd), (s.full), ((xs.length % 256)), ((xs.length / 256)), (((65535 - xs.length) % 256)), (((65535 - xs.length) / 256)), s.step, (s.ss), (s.final), .nilIface, s.toRead, s.hl, s.hd, (s.cl), (s.cd)⟩))) a1 (blk_eq rfl (by rw [h4b]; exact buf4)) ?_
  refine CT.region ?_
  refine TL.val (r_move (.t m2)) ?_
  refine TL.val (r_nil (.t m0)) ?_
  refine TL.val (r_fa (off' := 2) fo_103_2 (.t m0)) ?_
  refine TL.val (r_ld (v := (.int .i64 ((s.roff : Nat) : Int))) Tryz.isAgg2 m1 (.t m0) (by decide) (Dget_roff _)) ?_
  refine TL.val (r_move (.t m5)) ?_
  refine TL.val (n_add (s.roff) (4) 9223372036854775808 (.t m1) (.t m0) rfl rfl (by omega)) ?_
  refine TL.val (r_nil (.t m5)) ?_
  refine TL.val (r_fa (off' := 2) fo_103_2 (.t m0)) ?_
  refine TL.s (r_st (F' := D ⟨(.iface 49 (.pointer (some ⟨r, 0, none⟩))), s.rBuf, ((s.roff + 4)), 0, 0, s.H, s.bits, s.cbits, (.slice (some ⟨hb, 0, none⟩) (32768) (32768)), (s.wr), (s.rd), (s.full), ((xs.length % 256)), ((xs.length / 256)), (((65535 - xs.length) % 256)), (((65535 - xs.length) / 256)), s.step, (s.ss), (s.final), .nilIface, s.toRead, s.hl, s.hd, (s.cl), (s.cd)⟩) Tryz.sizeOf2 (Dset_roff ⟨(.iface 49 (.pointer (some ⟨r, 0, none⟩))), s.rBuf, (s.roff), 0, 0, s.H, s.bits, s.cbits, (.slice (some ⟨hb, 0, none⟩) (32768) (32768)), (s.wr), (s.rd), (s.full), ((xs.length % 256)), ((xs.length / 256)), (((65535 - xs.length) % 256)), (((65535 - xs.length) / 256)), s.step, (s.ss), (s.final), .nilIface, s.toRead, s.hl, s.hd, (s.cl), (s.cd)⟩ ((s.roff + 4))) a1 (.t m0) (.t m2) (by decide)) ?_
  refine TL.sub (.tl (.tl (.tl (.tl (.tl (.tl (.tl (.tl (.hd (.tl .refl)))))))))) ?_
  refine TL.nil ?_
  refine EX.seq ?_
  refine CT.seq ?_
  refine CT.seq ?_
  refine CT.region ?_
  refine TL.val (r_move (.t m0)) ?_
  refine TL.val (r_nen Tryz.underlying82 (.t m0)) ?_
  refine TL.sub (.hd (.tl .refl)) ?_
  refine TL.nil ?_
  refine EX.seq ?_
  refine CT.iff_ m0 ?_
  refine CT.sub (.tl .refl) ?_
  refine CT.skip ?_
  refine EX.seq ?_
  refine CT.seq ?_
  refine CT.still fm (by kernel_rfl) ?_
  refine TS.val (r_move (.t m1)) ?_
  refine TS.val (r_nil (.t m0)) ?_
  refine TS.val (r_fa (off' := 1041) fo_103_10 (.t m0)) ?_
  refine TS.val (r_iaa (i := 0) (off' := 1041) Tryz.underlying99 Tryz.sizeOf5 (.t m0) .c (rfl) (by omega) rfl) ?_
  refine TS.val (r_ld (v := (.int .u8 (((xs.length % 256) : Nat) : Int))) Tryz.isAgg5 m1 (.t m0) (by decide) (Dget_b0 _)) ?_
  refine TS.val (n_conv ((xs.length % 256)) 9223372036854775808 ⟨_, Tryz.underlying5⟩ Tryz.underlying3 (.t m0) rfl (by omega)) ?_
  refine TS.val (r_move (.t m7)) ?_
  refine TS.val (r_nil (.t m0)) ?_
  refine TS.val (r_fa (off' := 1041) fo_103_10 (.t m0)) ?_
  refine TS.val (r_iaa (i := 1) (off' := 1042) Tryz.underlying99 Tryz.sizeOf5 (.t m0) .c (rfl) (by omega) rfl) ?_
  refine TS.val (r_ld (v := (.int .u8 (((xs.length / 256) : Nat) : Int))) Tryz.isAgg5 m1 (.t m0) (by decide) (Dget_b1 _)) ?_
  refine TS.val (n_conv ((xs.length / 256)) 9223372036854775808 ⟨_, Tryz.underlying5⟩ Tryz.underlying3 (.t m0) rfl (by omega)) ?_
  refine TS.val (n_shl ((xs.length / 256)) (8) 9223372036854775808 (.t m0) .c rfl rfl (by decide) (by omega)) ?_
  refine TS.val (n_or ((xs.length % 256)) (((xs.length / 256) * 2 ^ 8)) 9223372036854775808 (.t m7) (.t m0) rfl rfl (by omega) (by omega)) ?_
  refine TS.val (r_asg (.t m0)) ?_
  refine TS.nil ?_
  refine TL.sub (.hd (.tl (.tl (.tl (.tl (.tl (.tl (.tl (.tl (.tl (.tl (.tl (.tl (.tl (.tl .refl))))))))))))))) ?_
  refine TL.sub (ρ' := [(4, (.int .i64 ((xs.length : Nat) : Int))), (3, .nilIface), (0, (.pointer (some ⟨f, 0, none⟩)))]) (.eq m0 (congrArg (fun z : Nat => Value.int .i64 (z : Int)) or16) (.cons m1 (.cons m2 .nil))) ?_
  refine TL.nil ?_
  refine EX.seq ?_
  refine CT.seq ?_
  refine CT.still fm (by kernel_rfl) ?_
  refine TS.val (r_move (.t m2)) ?_
  refine TS.val (r_nil (.t m0)) ?_
  refine TS.val (r_fa (off' := 1041) fo_103_10 (.t m0)) ?_
  refine TS.val (r_iaa (i := 2) (off' := 1043) Tryz.underlying99 Tryz.sizeOf5 (.t m0) .c (rfl) (by omega) rfl) ?_
  refine TS.val (r_ld (v := (.int .u8 ((((65535 - xs.length) % 256) : Nat) : Int))) Tryz.isAgg5 m1 (.t m0) (by decide) (Dget_b2 _)) ?_
  refine TS.val (n_conv (((65535 - xs.length) % 256)) 9223372036854775808 ⟨_, Tryz.underlying5⟩ Tryz.underlying3 (.t m0) rfl (by omega)) ?_
  refine TS.val (r_move (.t m8)) ?_
  refine TS.val (r_nil (.t m0)) ?_
  refine TS.val (r_fa (off' := 1041) fo_103_10 (.t m0)) ?_
  refine TS.val (r_iaa (i := 3) (off' := 1044) Tryz.underlying99 Tryz.sizeOf5 (.t m0) .c (rfl) (by omega) rfl) ?_
  refine TS.val (r_ld (v := (.int .u8 ((((65535 - xs.length) / 256) : Nat) : Int))) Tryz.isAgg5 m1 (.t m0) (by decide) (Dget_b3 _)) ?_
  refine TS.val (n_conv (((65535 - xs.length) / 256)) 9223372036854775808 ⟨_, Tryz.underlying5⟩ Tryz.underlying3 (.t m0) rfl (by omega)) ?_
  refine TS.val (n_shl (((65535 - xs.length) / 256)) (8) 9223372036854775808 (.t m0) .c rfl rfl (by decide) (by omega)) ?_
  refine TS.val (n_or (((65535 - xs.length) % 256)) ((((65535 - xs.length) / 256) * 2 ^ 8)) 9223372036854775808 (.t m7) (.t m0) rfl rfl (by omega) (by omega)) ?_
  refine TS.val (r_asg (.t m0)) ?_
  refine TS.nil ?_
  refine TL.sub (.hd (.tl (.tl (.tl (.tl (.tl (.tl (.tl (.tl (.tl (.tl (.tl (.tl (.tl (.tl .refl))))))))))))))) ?_
  refine TL.sub (ρ' := [(5, (.int .i64 (((65535 - xs.length) : Nat) : Int))), (4, (.int .i64 ((xs.length : Nat) : Int))), (3, .nilIface), (0, (.pointer (some ⟨f, 0, none⟩)))]) (.eq m0 (congrArg (fun z : Nat => Value.int .i64 (z : Int)) or16) (.cons m1 (.cons m2 (.cons m3 .nil)))) ?_
  refine TL.nil ?_
  refine EX.seq ?_
  refine CT.seq ?_
  refine CT.seq ?_
  refine CT.region ?_
  refine TL.val (r_move (.t m0)) ?_
  refine TL.val (n_conv ((65535 - xs.length)) 65536 ⟨_, Tryz.underlying3⟩ Tryz.underlying159 (.t m0) rfl (by omega)) ?_
  refine TL.val (r_move (.t m3)) ?_
  refine TL.val (r_compl (.t m0) (by omega)) ?_
  refine TL.val (r_conv (z := (((65535 - xs.length) : Nat) : Int)) ⟨_, Tryz.underlying3⟩ Tryz.underlying159 (.t m0) (conv16 (by omega))) ?_
  refine TL.val (n_neq ((65535 - xs.length)) ((65535 - xs.length)) (.t m3) (.t m0) rfl rfl) ?_
  refine TL.sub (.hd (.tl (.tl (.tl (.tl (.tl (.tl .refl))))))) ?_
  refine TL.nil ?_
  refine EX.seq ?_
  refine CT.ifd m0 (fun c72 => ?_) (fun c72 => ?_)
  ·
    exfalso; omega
  ·
    refine CT.sub (.tl .refl) ?_
    refine CT.skip ?_
    refine EX.seq ?_
    refine CT.seq ?_
    refine CT.seq ?_
    refine CT.region ?_
    refine TL.val (r_move (.t m0)) ?_
    refine TL.val (n_eql (xs.length) (0) (.t m0) .c rfl rfl) ?_
    refine TL.sub (.hd (.tl .refl)) ?_
    refine TL.nil ?_
    refine EX.seq ?_
    refine CT.ifd m0 (fun c82 => ?_) (fun c82 => ?_)
    ·
      have hx0 : xs = [] := List.length_eq_zero_iff.1 c82
      refine CT.sub (.tl .refl) ?_
      refine CT.seq ?_
      refine CT.region ?_
      refine TL.val (r_move (.t m2)) ?_
      refine TL.val (r_move (.t m3)) ?_
      refine TL.val (r_nil (.t m0)) ?_
      refine TL.val (r_fa (off' := 1037) fo_103_9 (.t m0)) ?_
      refine TL.perm p1 ?_
      refine TL.call (r_call ce_108 (.cons (.t m0) .nil)) (fun w hS => t108 f hb ⟨(.iface 49 (.pointer (some ⟨r, 0, none⟩))), s.rBuf, ((s.roff + 4)), 0, 0, s.H, s.bits, s.cbits, (.slice (some ⟨hb, 0, none⟩) (32768) (32768)), (s.wr), (s.rd), (s.full), ((xs.length % 256)), ((xs.length / 256)), (((65535 - xs.length) % 256)), (((65535 - xs.length) / 256)), s.step, (s.ss), (s.final), .nilIface, s.toRead, s.hl, s.hd, (s.cl), (s.cd)⟩ (by show s.rd ≤ s.wr; omega) (by show s.wr ≤ 32768; omega) (by show s.rd < 32768; omega) hS) ?_
      rintro z87 w87 ⟨hz87, hS⟩
      replace hz87 : z87 = (.slice (some ⟨hb, s.rd, none⟩) ((s.wr - s.rd)) ((32768 - s.rd))) := hz87
      subst hz87
      replace hS : Sat G w87 ((blk f 1054 (D ⟨(.iface 49 (.pointer (some ⟨r, 0, none⟩))), s.rBuf, ((s.roff + 4)), 0, 0, s.H, s.bits, s.cbits, (.slice (some ⟨hb, 0, none⟩) (32768) (32768)), ((s.wr % 32768)), ((s.wr % 32768)), ((s.full) || decide (s.wr = 32768)), ((xs.length % 256)), ((xs.length / 256)), (((65535 - xs.length) % 256)), (((65535 - xs.length) / 256)), s.step, (s.ss), (s.final), .nilIface, s.toRead, s.hl, s.hd, (s.cl), (s.cd)⟩)) :: (Br r B (i + (4))) :: (blk hb 32768 (fun j => u8 (hist j))) :: R) := hS
      refine TW.at hS ?_
      refine TL.val (r_nil (.t m4)) ?_
      refine TL.val (r_fa (off' := 1049) fo_103_15 (.t m0)) ?_
      refine TL.s (r_st (F' := D ⟨(.iface 49 (.pointer (some ⟨r, 0, none⟩))), s.rBuf, ((s.roff + 4)), 0, 0, s.H, s.bits, s.cbits, (.slice (some ⟨hb, 0, none⟩) (32768) (32768)), ((s.wr % 32768)), ((s.wr % 32768)), ((s.full) || decide (s.wr = 32768)), ((xs.length % 256)), ((xs.length / 256)), (((65535 - xs.length) % 256)), (((65535 - xs.length) / 256)), s.step, (s.ss), (s.final), .nilIface, (.slice (some ⟨hb, s.rd, none⟩) ((s.wr - s.rd)) ((32768 - s.rd))), s.hl, s.hd, (s.cl), (s.cd)⟩) Tryz.sizeOf22 (Dset_toRead ⟨(.iface 49 (.pointer (some ⟨r, 0, none⟩))), s.rBuf, ((s.roff + 4)), 0, 0, s.H, s.bits, s.cbits, (.slice (some ⟨hb, 0, none⟩) (32768) (32768)), ((s.wr % 32768)), ((s.wr % 32768)), ((s.full) || decide (s.wr = 32768)), ((xs.length % 256)), ((xs.length / 256)), (((65535 - xs.length) % 256)), (((65535 - xs.length) / 256)), s.step, (s.ss), (s.final), .nilIface, s.toRead, s.hl, s.hd, (s.cl), (s.cd)⟩ (.slice (some ⟨hb, s.rd, none⟩) ((s.wr - s.rd)) ((32768 - s.rd)))) a0 (.t m0) (.t m2) (by decide)) ?_
      refine TL.sub (.tl (.tl (.tl (.tl (.tl (.tl (.tl .refl))))))) ?_
      refine TL.nil ?_
      refine EX.seq ?_
      refine CT.seq ?_
      refine CT.region ?_
      refine TL.val (r_move (.t m2)) ?_
      refine TL.call (r_call ce_109 (.cons (.t m0) .nil)) (fun w hS => t109 f hb ⟨(.iface 49 (.pointer (some ⟨r, 0, none⟩))), s.rBuf, ((s.roff + 4)), 0, 0, s.H, s.bits, s.cbits, (.slice (some ⟨hb, 0, none⟩) (32768) (32768)), ((s.wr % 32768)), ((s.wr % 32768)), ((s.full) || decide (s.wr = 32768)), ((xs.length % 256)), ((xs.length / 256)), (((65535 - xs.length) % 256)), (((65535 - xs.length) / 256)), s.step, (s.ss), (s.final), .nilIface, (.slice (some ⟨hb, s.rd, none⟩) ((s.wr - s.rd)) ((32768 - s.rd))), s.hl, s.hd, (s.cl), (s.cd)⟩ (by show (s.wr % 32768) ≤ (s.wr % 32768); omega) (by show (s.wr % 32768) < 32768; omega) hE hS) ?_
      rintro _ w91 ⟨rfl, hS⟩
      refine TW.at hS ?_
      refine TL.sub (.tl (.tl .refl)) ?_
      refine TL.nil ?_
      refine EX.seq ?_
      refine CT.ret ?_
      refine EX.then_ret ?_
      refine EX.perm p2 ?_
      refine EX.perm p2 ?_
      refine EX.perm p2 ?_
      exact EX.end_ (.inl rfl) (res0 Tryz.results87) (fun _ hS => (data_zero H hu herr hd4 hx0 ha (by omega) (by omega) hS).toA)
    ·
      refine CT.sub (.tl .refl) ?_
      refine CT.skip ?_
      refine EX.seq ?_
      refine CT.seq ?_
      refine CT.region ?_
      refine TL.val (r_move (.t m2)) ?_
      refine TL.val (r_move (.t m1)) ?_
      refine TL.val (r_nil (.t m1)) ?_
      refine TL.val (r_fa (off' := 1052) fo_103_18 (.t m0)) ?_
      refine TL.s (r_st (F' := D ⟨(.iface 49 (.pointer (some ⟨r, 0, none⟩))), s.rBuf, ((s.roff + 4)), 0, 0, s.H, s.bits, s.cbits, (.slice (some ⟨hb, 0, none⟩) (32768) (32768)), (s.wr), (s.rd), (s.full), ((xs.length % 256)), ((xs.length / 256)), (((65535 - xs.length) % 256)), (((65535 - xs.length) / 256)), s.step, (s.ss), (s.final), .nilIface, s.toRead, s.hl, s.hd, (xs.length), (s.cd)⟩) Tryz.sizeOf3 (Dset_cl ⟨(.iface 49 (.pointer (some ⟨r, 0, none⟩))), s.rBuf, ((s.roff + 4)), 0, 0, s.H, s.bits, s.cbits, (.slice (some ⟨hb, 0, none⟩) (32768) (32768)), (s.wr), (s.rd), (s.full), ((xs.length % 256)), ((xs.length / 256)), (((65535 - xs.length) % 256)), (((65535 - xs.length) / 256)), s.step, (s.ss), (s.final), .nilIface, s.toRead, s.hl, s.hd, (s.cl), (s.cd)⟩ (xs.length)) a1 (.t m0) (.t m2) (by decide)) ?_
      refine TL.sub (.tl (.tl (.tl (.tl .refl)))) ?_
      refine TL.nil ?_
      refine EX.seq ?_
      refine CT.region ?_
      refine TL.val (r_move (.t m2)) ?_
      refine TL.perm p2 ?_
      refine TL.perm p1 ?_
      refine TL.perm p2 ?_
      refine TL.call (r_call ce_110 (.cons (.t m0) .nil)) (fun w hS => CallsR.mono (t110 (s := ⟨(.iface 49 (.pointer (some ⟨r, 0, none⟩))), s.rBuf, ((s.roff + 4)), 0, 0, s.H, s.bits, s.cbits, (.slice (some ⟨hb, 0, none⟩) (32768) (32768)), (s.wr), (s.rd), (s.full), ((xs.length % 256)), ((xs.length / 256)), (((65535 - xs.length) % 256)), (((65535 - xs.length) / 256)), s.step, (s.ss), (s.final), .nilIface, s.toRead, s.hl, s.hd, (xs.length), (s.cd)⟩) (i := i + (4)) (mu0 := mu0) hE hBl ⟨rfl, rfl, H.win, H.rw_, H.wl, by show s.roff + 4 = i + 4; omega, by omega⟩ hu htr rfl (xs := xs) (rest := rest) rfl rfl rfl hx hd4 ha (by omega) hS) fun _ _ h => h.toA) ?_
      rintro v97 w97 hS
      refine TW.at hS ?_
      refine TL.sub (.tl (.tl .refl)) ?_
      refine TL.nil ?_
      exact EX.end_ (.inr rfl) (res0 Tryz.results87) (fun _ hS => hS)
end Go.Eng
