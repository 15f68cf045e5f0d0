/- The walk of a block, stored. -/
import Derived.Test.YtkpadembffdepaaGreatDoorGj
namespace Go.Eng
open Go Go.Proofs Go.Infl
set_option maxRecDepth 20000
set_option linter.unusedSimpArgs false
set_option linter.unusedVariables false

theorem t68_s {G : World} {R : List HProp} {w : World} {f r hb i : Nat} {B : List Bool} {hF del un : List Nat} {ea : Addr} {s : DS} {hist : Nat → Nat} {mu0 : Nat} (hE : EOFIs G ea) (hBl : B.length < 1099511627776) (H : Base r hb B s i hist (del ++ un)) (hu : un.length = s.wr - s.rd) (htr : TR hb hist s.toRead []) (herr : s.err = .nilIface) {k : Nat} {fin : Bool} {ps : List Bool} {xs : List Nat} {rest : List Bool} (hk : Held B k i s.b s.nb) (hn : s.nb ≤ 7) (hps : ps.length < 8) (hal : (k + 3 + ps.length) % 8 = 0) (hxl : xs.length ≤ 65535) (hx : ∀ x ∈ xs, x < 256) (hd : B.drop k = storedBits fin ps xs ++ rest) (ha : After fin (k + (storedBits fin ps xs).length) rest (del ++ un ++ xs) hF) (hmu : 1000 * (B.length - k) ≤ mu0)
    (hS : Sat G w (blk f 1054 (D s) :: Br r B i :: blk hb 32768 (fun j => u8 (hist j)) :: R)) : CallsR Tryz.prog 68 #[.pointer (some ⟨f, 0, none⟩)] w (fun _ w' => Sat G w' ((RSA f r hb B hF (.iface 187 (.pointer (some ea))) del (· < mu0)) :: R)) := by
  have hlen := congrArg List.length hd
  rw [List.length_drop, List.length_append, storedBits_length] at hlen
  have hpl := pack_length B
  have h1 := H.rw_; have h2 := H.wl; have h3 := H.ro; have h4 := H.il
  have hd0 : B.drop k = nbits 3 (Bool.toNat fin) ++ (ps ++ (nbits 16 xs.length ++ (nbits 16 (65535 - xs.length) ++ (xs.flatMap (nbits 8) ++ rest)))) := by rw [hd]; unfold storedBits; simp only [List.append_assoc]
  have hd1 := drop_app hd0
  rw [nbits_length] at hd1
  have hd2 := drop_app hd1
  have hs : s = ⟨(.iface 49 (.pointer (some ⟨r, 0, none⟩))), s.rBuf, (i), (s.b), (s.nb), s.H, s.bits, s.cbits, (.slice (some ⟨hb, 0, none⟩) (32768) (32768)), (s.wr), (s.rd), (s.full), (s.b0), (s.b1), (s.b2), (s.b3), s.step, (s.ss), (s.final), .nilIface, s.toRead, s.hl, s.hd, (s.cl), (s.cd)⟩ := by have h5 := H.r_; have h6 := H.hi; cases s; simp_all
  replace hS := hS.D hs
  refine calls_in (n := 103) [(0, (.pointer (some ⟨f, 0, none⟩)))] Tryz.func68 rfl rfl hS args1 ?_
  refine CT.seq ?_
  refine CT.block ?_
  refine CT.loop (X := Nat × Nat × Nat) (fun gx => [(0, (.pointer (some ⟨f, 0, none⟩)))]) (fun gx => (blk f 1054 (D ⟨(.iface 49 (.pointer (some ⟨r, 0, none⟩))), s.rBuf, (gx.1), (gx.2.1), (gx.2.2), s.H, s.bits, s.cbits, (.slice (some ⟨hb, 0, none⟩) (32768) (32768)), (s.wr), (s.rd), (s.full), (s.b0), (s.b1), (s.b2), (s.b3), s.step, (s.ss), (s.final), .nilIface, s.toRead, s.hl, s.hd, (s.cl), (s.cd)⟩)) :: (Br r B (gx.1)) :: (blk hb 32768 (fun j => u8 (hist j))) :: R) (fun gx => Held B k (gx.1) (gx.2.1) (gx.2.2) ∧ (gx.2.2) ≤ 10) (fun gx => 3 - (gx.2.2)) ((i, s.b, s.nb)) (⟨hk, by show s.nb ≤ 10; omega⟩) (.refl _) (.cons m0 .nil) ?_
  rintro ⟨i2, b2, n2⟩ ⟨hI1, hI2⟩
  show CT _ _ _ [(0, (.pointer (some ⟨f, 0, none⟩)))] _ _ ((blk f 1054 (D ⟨(.iface 49 (.pointer (some ⟨r, 0, none⟩))), s.rBuf, (i2), (b2), (n2), s.H, s.bits, s.cbits, (.slice (some ⟨hb, 0, none⟩) (32768) (32768)), (s.wr), (s.rd), (s.full), (s.b0), (s.b1), (s.b2), (s.b3), s.step, (s.ss), (s.final), .nilIface, s.toRead, s.hl, s.hd, (s.cl), (s.cd)⟩)) :: (Br r B (i2)) :: (blk hb 32768 (fun j => u8 (hist j))) :: R)
  replace hI1 : Held B k i2 b2 n2 := hI1
  replace hI2 : n2 ≤ 10 := hI2
  have hh1 := hI1.1
  have hb2 : b2 < 4294967296 := Nat.lt_of_lt_of_le hI1.lt (Nat.pow_le_pow_right (by decide) (show n2 ≤ 32 by omega))
  refine CT.seq ?_
  refine CT.seq ?_
  refine CT.region ?_
  refine TL.val (r_move (.t m0)) ?_
  refine TL.val (r_nil (.t m0)) ?_
  refine TL.val (r_fa (off' := 4) fo_103_4 (.t m0)) ?_
  refine TL.val (r_ld (v := (.int .u64 ((n2 : Nat) : Int))) Tryz.isAgg90 m0 (.t m0) (by decide) (Dget_nb _)) ?_
  refine TL.val (n_lss (n2) (3) (.t m0) .c rfl rfl) ?_
  refine TL.sub (.hd (.tl (.tl (.tl (.tl .refl))))) ?_
  refine TL.nil ?_
  refine EX.seq ?_
  refine CT.ifd m0 (fun c7 => ?_) (fun c7 => ?_)
  ·
    refine CT.sub (.tl .refl) ?_
    refine CT.skip ?_
    refine EX.seq ?_
    refine CT.block ?_
    refine CT.seq ?_
    refine CT.region ?_
    refine TL.val (r_move (.t m0)) ?_
    refine TL.val (r_move (.t m1)) ?_
    refine TL.perm p1 ?_
    refine TL.perm p1 ?_
    refine TL.call (r_call ce_86 (.cons (.t m0) .nil)) (fun w hS => t86 f r (i2) B ⟨(.iface 49 (.pointer (some ⟨r, 0, none⟩))), s.rBuf, (i2), (b2), (n2), s.H, s.bits, s.cbits, (.slice (some ⟨hb, 0, none⟩) (32768) (32768)), (s.wr), (s.rd), (s.full), (s.b0), (s.b1), (s.b2), (s.b3), s.step, (s.ss), (s.final), .nilIface, s.toRead, s.hl, s.hd, (s.cl), (s.cd)⟩ (by omega) (by omega) (by show i2 < 9223372036854775807; omega) (by show b2 < 4294967296; omega) (by show n2 ≤ 24; omega) hS) ?_
    rintro z10 w10 ⟨hz10, hS⟩
    replace hz10 : z10 = .nilIface := hz10
    subst hz10
    replace hS : Sat G w10 ((blk f 1054 (D ⟨(.iface 49 (.pointer (some ⟨r, 0, none⟩))), s.rBuf, ((i2 + 1)), ((b2 ||| byteAt B (i2) * 2 ^ n2)), ((n2 + 8)), s.H, s.bits, s.cbits, (.slice (some ⟨hb, 0, none⟩) (32768) (32768)), (s.wr), (s.rd), (s.full), (s.b0), (s.b1), (s.b2), (s.b3), s.step, (s.ss), (s.final), .nilIface, s.toRead, s.hl, s.hd, (s.cl), (s.cd)⟩)) :: (Br r B (i2 + 1)) :: (blk hb 32768 (fun j => u8 (hist j))) :: R) := hS
    refine TW.at hS ?_
    refine TL.val (r_nil (.t m2)) ?_
    refine TL.val (r_fa (off' := 1048) fo_103_14 (.t m0)) ?_
    refine TL.s (r_st (F' := D ⟨(.iface 49 (.pointer (some ⟨r, 0, none⟩))), s.rBuf, ((i2 + 1)), ((b2 ||| byteAt B (i2) * 2 ^ n2)), ((n2 + 8)), s.H, s.bits, s.cbits, (.slice (some ⟨hb, 0, none⟩) (32768) (32768)), (s.wr), (s.rd), (s.full), (s.b0), (s.b1), (s.b2), (s.b3), s.step, (s.ss), (s.final), .nilIface, s.toRead, s.hl, s.hd, (s.cl), (s.cd)⟩) Tryz.sizeOf82 (Dset_err ⟨(.iface 49 (.pointer (some ⟨r, 0, none⟩))), s.rBuf, ((i2 + 1)), ((b2 ||| byteAt B (i2) * 2 ^ n2)), ((n2 + 8)), s.H, s.bits, s.cbits, (.slice (some ⟨hb, 0, none⟩) (32768) (32768)), (s.wr), (s.rd), (s.full), (s.b0), (s.b1), (s.b2), (s.b3), s.step, (s.ss), (s.final), .nilIface, s.toRead, s.hl, s.hd, (s.cl), (s.cd)⟩ .nilIface) a0 (.t m0) (.t m2) (by decide)) ?_
    refine TL.sub (.tl (.tl (.tl (.tl (.tl .refl))))) ?_
    refine TL.nil ?_
    refine EX.seq ?_
    refine CT.seq ?_
    refine CT.region ?_
    refine TL.val (r_move (.t m0)) ?_
    refine TL.val (r_nil (.t m0)) ?_
    refine TL.val (r_fa (off' := 1048) fo_103_14 (.t m0)) ?_
    refine TL.val (r_ld (v := .nilIface) Tryz.isAgg82 m0 (.t m0) (by decide) (Dget_err _)) ?_
    refine TL.val (r_nen Tryz.underlying82 (.t m0)) ?_
    refine TL.sub (.hd (.tl (.tl (.tl (.tl .refl))))) ?_
    refine TL.nil ?_
    refine EX.seq ?_
    refine CT.iff_ m0 ?_
    refine CT.sub (.tl .refl) ?_
    refine CT.skip ?_
    refine EX.bnormal ?_
    refine EX.fold (A' := (blk f 1054 (D ⟨(.iface 49 (.pointer (some ⟨r, 0, none⟩))), s.rBuf, (i2 + 1), (b2 ||| byteAt B i2 * 2 ^ n2), (n2 + 8), s.H, s.bits, s.cbits, (.slice (some ⟨hb, 0, none⟩) (32768) (32768)), (s.wr), (s.rd), (s.full), (s.b0), (s.b1), (s.b2), (s.b3), s.step, (s.ss), (s.final), .nilIface, s.toRead, s.hl, s.hd, (s.cl), (s.cd)⟩))) a0 (D_eq rfl) ?_
    exact EX.again ((i2 + 1, b2 ||| byteAt B i2 * 2 ^ n2, n2 + 8)) (⟨hI1.more (by have := hI1.1; omega), by show n2 + 8 ≤ 10; omega⟩) (by show 3 - (n2 + 8) < 3 - n2; omega) (.refl _) (.cons m0 .nil)
  ·
    have hlow := hI1.low (m := 3) (by omega) (by have := flag_lt fin; omega) hd0
    have hf : decide ((b2 &&& 1) = 1) = fin := by rw [Nat.and_one_is_mod]; cases fin <;> simp [Bool.toNat] at hlow <;> simp <;> omega
    have ht : b2 / 2 ^ 1 &&& 3 = 0 := by rw [show (3 : Nat) = 2 ^ 2 - 1 from rfl, Nat.and_two_pow_sub_one_eq_mod]; have := flag_lt fin; omega
    have hnb : n2 - 3 = ps.length := by omega
    refine CT.sub (.tl .refl) ?_
    refine CT.exit ?_
    refine EX.then_exit ?_
    refine EX.then_exit ?_
    refine EX.out ?_
    refine EX.seq ?_
    refine CT.seq ?_
    refine CT.region ?_
    refine TL.val (r_move (.t m0)) ?_
    refine TL.val (r_move (.t m1)) ?_
    refine TL.val (r_nil (.t m0)) ?_
    refine TL.val (r_fa (off' := 3) fo_103_3 (.t m0)) ?_
    refine TL.val (r_ld (v := (.int .u32 ((b2 : Nat) : Int))) Tryz.isAgg89 m0 (.t m0) (by decide) (Dget_b _)) ?_
    refine TL.val (n_and (b2) (1) 4294967296 (.t m0) .c rfl rfl (by omega) (by omega)) ?_
    refine TL.val (n_eql ((b2 &&& 1)) (1) (.t m0) .c rfl rfl) ?_
    refine TL.val (r_nil (.t m6)) ?_
    refine TL.val (r_fa (off' := 1047) fo_103_13 (.t m0)) ?_
    refine TL.s (r_st (F' := D ⟨(.iface 49 (.pointer (some ⟨r, 0, none⟩))), s.rBuf, (i2), (b2), (n2), s.H, s.bits, s.cbits, (.slice (some ⟨hb, 0, none⟩) (32768) (32768)), (s.wr), (s.rd), (s.full), (s.b0), (s.b1), (s.b2), (s.b3), s.step, (s.ss), (decide ((b2 &&& 1) = 1)), .nilIface, s.toRead, s.hl, s.hd, (s.cl), (s.cd)⟩) Tryz.sizeOf4 (Dset_final ⟨(.iface 49 (.pointer (some ⟨r, 0, none⟩))), s.rBuf, (i2), (b2), (n2), s.H, s.bits, s.cbits, (.slice (some ⟨hb, 0, none⟩) (32768) (32768)), (s.wr), (s.rd), (s.full), (s.b0), (s.b1), (s.b2), (s.b3), s.step, (s.ss), (s.final), .nilIface, s.toRead, s.hl, s.hd, (s.cl), (s.cd)⟩ (decide ((b2 &&& 1) = 1))) a0 (.t m0) (.t m2) (by decide)) ?_
    refine TL.sub (.tl (.tl (.tl (.tl (.tl (.tl (.tl (.tl (.tl .refl))))))))) ?_
    refine TL.fold (A' := (blk f 1054 (D ⟨(.iface 49 (.pointer (some ⟨r, 0, none⟩))), s.rBuf, (i2), (b2), (n2), s.H, s.bits, s.cbits, (.slice (some ⟨hb, 0, none⟩) (32768) (32768)), (s.wr), (s.rd), (s.full), (s.b0), (s.b1), (s.b2), (s.b3), s.step, (s.ss), (fin), .nilIface, s.toRead, s.hl, s.hd, (s.cl), (s.cd)⟩))) a0 (D_eq (by rw [hf])) ?_
    refine TL.nil ?_
    refine EX.seq ?_
    refine CT.seq ?_
    refine CT.region ?_
    refine TL.val (r_move (.t m0)) ?_
    refine TL.val (r_nil (.t m0)) ?_
    refine TL.val (r_fa (off' := 3) fo_103_3 (.t m0)) ?_
    refine TL.val (r_ld (v := (.int .u32 ((b2 : Nat) : Int))) Tryz.isAgg89 m0 (.t m0) (by decide) (Dget_b _)) ?_
    refine TL.val (n_shr (b2) (1) (.t m0) .c rfl rfl (by decide)) ?_
    refine TL.val (r_nil (.t m4)) ?_
    refine TL.val (r_fa (off' := 3) fo_103_3 (.t m0)) ?_
    refine TL.s (r_st (F' := D ⟨(.iface 49 (.pointer (some ⟨r, 0, none⟩))), s.rBuf, (i2), ((b2 / 2 ^ 1)), (n2), s.H, s.bits, s.cbits, (.slice (some ⟨hb, 0, none⟩) (32768) (32768)), (s.wr), (s.rd), (s.full), (s.b0), (s.b1), (s.b2), (s.b3), s.step, (s.ss), (fin), .nilIface, s.toRead, s.hl, s.hd, (s.cl), (s.cd)⟩) Tryz.sizeOf89 (Dset_b ⟨(.iface 49 (.pointer (some ⟨r, 0, none⟩))), s.rBuf, (i2), (b2), (n2), s.H, s.bits, s.cbits, (.slice (some ⟨hb, 0, none⟩) (32768) (32768)), (s.wr), (s.rd), (s.full), (s.b0), (s.b1), (s.b2), (s.b3), s.step, (s.ss), (fin), .nilIface, s.toRead, s.hl, s.hd, (s.cl), (s.cd)⟩ ((b2 / 2 ^ 1))) a0 (.t m0) (.t m2) (by decide)) ?_
    refine TL.sub (.tl (.tl (.tl (.tl (.tl (.tl (.tl .refl))))))) ?_
    refine TL.nil ?_
    refine EX.seq ?_
    refine CT.seq ?_
    refine CT.region ?_
    refine TL.val (r_move (.t m0)) ?_
    refine TL.val (r_nil (.t m0)) ?_
    refine TL.val (r_fa (off' := 3) fo_103_3 (.t m0)) ?_
    refine TL.val (r_ld (v := (.int .u32 (((b2 / 2 ^ 1) : Nat) : Int))) Tryz.isAgg89 m0 (.t m0) (by decide) (Dget_b _)) ?_
    refine TL.val (n_and ((b2 / 2 ^ 1)) (3) 4294967296 (.t m0) .c rfl rfl (by omega) (by omega)) ?_
    refine TL.val (r_asg (.t m0)) ?_
    refine TL.sub (.hd (.tl (.tl (.tl (.tl (.tl .refl)))))) ?_
    refine TL.sub (ρ' := [(2, (.int .u32 0)), (0, (.pointer (some ⟨f, 0, none⟩)))]) (.eq m0 (congrArg (fun z : Nat => Value.int .u32 (z : Int)) ht) (.cons m1 .nil)) ?_
    refine TL.nil ?_
    refine EX.seq ?_
    refine CT.seq ?_
    refine CT.region ?_
    refine TL.val (r_move (.t m1)) ?_
    refine TL.val (r_nil (.t m0)) ?_
    refine TL.val (r_fa (off' := 3) fo_103_3 (.t m0)) ?_
    refine TL.val (r_ld (v := (.int .u32 (((b2 / 2 ^ 1) : Nat) : Int))) Tryz.isAgg89 m0 (.t m0) (by decide) (Dget_b _)) ?_
    refine TL.val (n_shr ((b2 / 2 ^ 1)) (2) (.t m0) .c rfl rfl (by decide)) ?_
    refine TL.val (r_nil (.t m4)) ?_
    refine TL.val (r_fa (off' := 3) fo_103_3 (.t m0)) ?_
    refine TL.s (r_st (F' := D ⟨(.iface 49 (.pointer (some ⟨r, 0, none⟩))), s.rBuf, (i2), (((b2 / 2 ^ 1) / 2 ^ 2)), (n2), s.H, s.bits, s.cbits, (.slice (some ⟨hb, 0, none⟩) (32768) (32768)), (s.wr), (s.rd), (s.full), (s.b0), (s.b1), (s.b2), (s.b3), s.step, (s.ss), (fin), .nilIface, s.toRead, s.hl, s.hd, (s.cl), (s.cd)⟩) Tryz.sizeOf89 (Dset_b ⟨(.iface 49 (.pointer (some ⟨r, 0, none⟩))), s.rBuf, (i2), ((b2 / 2 ^ 1)), (n2), s.H, s.bits, s.cbits, (.slice (some ⟨hb, 0, none⟩) (32768) (32768)), (s.wr), (s.rd), (s.full), (s.b0), (s.b1), (s.b2), (s.b3), s.step, (s.ss), (fin), .nilIface, s.toRead, s.hl, s.hd, (s.cl), (s.cd)⟩ (((b2 / 2 ^ 1) / 2 ^ 2))) a0 (.t m0) (.t m2) (by decide)) ?_
    refine TL.sub (.tl (.tl (.tl (.tl (.tl (.tl (.tl .refl))))))) ?_
    refine TL.nil ?_
    refine EX.seq ?_
    refine CT.seq ?_
    refine CT.region ?_
    refine TL.val (r_move (.t m1)) ?_
    refine TL.val (r_nil (.t m0)) ?_
    refine TL.val (r_fa (off' := 4) fo_103_4 (.t m0)) ?_
    refine TL.val (r_ld (v := (.int .u64 ((n2 : Nat) : Int))) Tryz.isAgg90 m0 (.t m0) (by decide) (Dget_nb _)) ?_
    refine TL.val (n_sub (n2) (3) 18446744073709551616 (.t m0) .c rfl rfl (by omega) (by omega)) ?_
    refine TL.val (r_nil (.t m4)) ?_
    refine TL.val (r_fa (off' := 4) fo_103_4 (.t m0)) ?_
    refine TL.s (r_st (F' := D ⟨(.iface 49 (.pointer (some ⟨r, 0, none⟩))), s.rBuf, (i2), (((b2 / 2 ^ 1) / 2 ^ 2)), ((n2 - 3)), s.H, s.bits, s.cbits, (.slice (some ⟨hb, 0, none⟩) (32768) (32768)), (s.wr), (s.rd), (s.full), (s.b0), (s.b1), (s.b2), (s.b3), s.step, (s.ss), (fin), .nilIface, s.toRead, s.hl, s.hd, (s.cl), (s.cd)⟩) Tryz.sizeOf90 (Dset_nb ⟨(.iface 49 (.pointer (some ⟨r, 0, none⟩))), s.rBuf, (i2), (((b2 / 2 ^ 1) / 2 ^ 2)), (n2), s.H, s.bits, s.cbits, (.slice (some ⟨hb, 0, none⟩) (32768) (32768)), (s.wr), (s.rd), (s.full), (s.b0), (s.b1), (s.b2), (s.b3), s.step, (s.ss), (fin), .nilIface, s.toRead, s.hl, s.hd, (s.cl), (s.cd)⟩ ((n2 - 3))) a0 (.t m0) (.t m2) (by decide)) ?_
    refine TL.sub (.tl (.tl (.tl (.tl (.tl (.tl (.tl .refl))))))) ?_
    refine TL.nil ?_
    refine EX.seq ?_
    refine CT.seq ?_
    refine CT.region ?_
    refine TL.val (r_move (.t m0)) ?_
    refine TL.sub (.hd (.tl .refl)) ?_
    refine TL.nil ?_
    refine EX.seq ?_
    refine CT.block ?_
    refine CT.seq ?_
    refine CT.region ?_
    refine TL.val (show Run _ _ _ _ _ _ (.bool true) from n_eql (0) (0) (.t m0) .c rfl rfl) ?_
    refine TL.val (r_asg (.t m0)) ?_
    refine TL.sub (.hd (.tl .refl)) ?_
    refine TL.nil ?_
    refine EX.seq ?_
    refine CT.ift m0 ?_
    refine CT.sub (.tl .refl) ?_
    refine CT.region ?_
    refine TL.val (r_move (.t m1)) ?_
    refine TL.perm p2 ?_
    refine TL.perm p2 ?_
    refine TL.perm p2 ?_
    refine TL.call (r_call ce_87 (.cons (.t m0) .nil)) (fun w hS => t87 (s := ⟨(.iface 49 (.pointer (some ⟨r, 0, none⟩))), s.rBuf, (i2), (((b2 / 2 ^ 1) / 2 ^ 2)), ((n2 - 3)), s.H, s.bits, s.cbits, (.slice (some ⟨hb, 0, none⟩) (32768) (32768)), (s.wr), (s.rd), (s.full), (s.b0), (s.b1), (s.b2), (s.b3), s.step, (s.ss), (fin), .nilIface, s.toRead, s.hl, s.hd, (s.cl), (s.cd)⟩) (i := i2) (mu0 := mu0) hE hBl ⟨rfl, rfl, H.win, H.rw_, H.wl, rfl, by omega⟩ hu htr rfl (xs := xs) (rest := rest) hxl hx (by rw [show 8 * i2 = k + 3 + ps.length by omega]; exact hd2) (by have e : 8 * (i2 + 4) + 8 * xs.length = k + (storedBits fin ps xs).length := (by rw [storedBits_length]; omega); rw [e]; exact ha) (by omega) hS) ?_
    rintro v65 w65 hS
    refine TW.at hS ?_
    refine TL.sub (.tl (.tl .refl)) ?_
    refine TL.nil ?_
    refine EX.bnormal ?_
    exact EX.end_ (.inr rfl) (res0 Tryz.results68) (fun _ hS => hS)
end Go.Eng
