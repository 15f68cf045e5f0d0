/- The walk of copying stored bytes. -/
import Derived.Test.YtkpadembffdepaaGreatDoorGg
namespace Go.Eng
open Go Go.Proofs Go.Infl
set_option maxRecDepth 20000
set_option linter.unusedSimpArgs false
set_option linter.unusedVariables false


theorem updl_hist {h : Nat → Nat} : ∀ {xs : List Nat} {off : Nat}, updl (fun j => u8 (h j)) off (xs.map u8) = fun j => u8 (updh h off xs j) := by
  intro xs off
  funext j
  by_cases hj : off ≤ j ∧ j < off + xs.length
  · have h1 : (xs.map u8)[j - off]? = some (u8 (xs.getD (j - off) 0)) := by
      rw [List.getElem?_map, List.getD_eq_getElem?_getD, List.getElem?_eq_getElem (by omega)]; rfl
    have := updl_get (F := fun j => u8 (h j)) (off := off) h1
    rw [show off + (j - off) = j by omega] at this
    rw [this]; unfold updh; rw [if_pos hj]
  · unfold updh
    rw [if_neg hj]
    rcases Nat.lt_or_ge j off with h1 | h1
    · rw [updl_lt h1]
    · rw [updl_ge (by rw [List.length_map]; omega)]
theorem t110 {G : World} {R : List HProp} {w : World} {f r hb i : Nat} {B : List Bool} {hF del un xs : List Nat} {ea : Addr} {s : DS} {hist : Nat → Nat} {rest : List Bool} {mu0 : Nat} (hE : EOFIs G ea) (hBl : B.length < 1099511627776) (H : Base r hb B s i hist (del ++ un)) (hu : un.length = s.wr - s.rd) (htr : TR hb hist s.toRead []) (herr : s.err = .nilIface) (hcl : s.cl = xs.length) (hnb : s.nb = 0) (hb0 : s.b = 0) (hx : ∀ x ∈ xs, x < 256) (hd : B.drop (8 * i) = xs.flatMap (nbits 8) ++ rest) (ha : After s.final (8 * i + 8 * xs.length) rest (del ++ un ++ xs) hF) (hmu : 1000 * (B.length - 8 * i) + 1 ≤ mu0)
    (hS : Sat G w (blk f 1054 (D s) :: Br r B i :: blk hb 32768 (fun j => u8 (hist j)) :: R)) : CallsR Tryz.prog 110 #[.pointer (some ⟨f, 0, none⟩)] w (fun _ w' => RS G R f r hb B hF (.iface 187 (.pointer (some ea))) del (· < mu0) w') := by
  have hlen := congrArg List.length hd
  rw [List.length_drop, List.length_append, bits8_length] at hlen
  have hpl := pack_length B
  have h1 := H.rw_; have h2 := H.wl; have h3 := H.ro; have h4 := H.il
  have hs : s = ⟨(.iface 49 (.pointer (some ⟨r, 0, none⟩))), s.rBuf, (s.roff), 0, 0, s.H, s.bits, s.cbits, (.slice (some ⟨hb, 0, none⟩) (32768) (32768)), (s.wr), (s.rd), (s.full), (s.b0), (s.b1), (s.b2), (s.b3), s.step, (s.ss), (s.final), s.err, s.toRead, s.hl, s.hd, (xs.length), (s.cd)⟩ := by have h5 := H.r_; have h6 := H.hi; cases s; simp_all
  replace hS := hS.D hs
  obtain ⟨m, hm⟩ : ∃ m, m = min xs.length (32768 - s.wr) := ⟨_, rfl⟩
  refine calls_in (n := 83) [(0, (.pointer (some ⟨f, 0, none⟩)))] Tryz.func110 rfl rfl hS args1 ?_
  refine CT.seq ?_
  refine CT.region ?_
  refine TL.val (r_move (.t m0)) ?_
  refine TL.val (r_nil (.t m0)) ?_
  refine TL.val (r_fa (off' := 1037) fo_103_9 (.t m0)) ?_
  refine TL.call (r_call ce_125 (.cons (.t m0) .nil)) (fun w hS => t125 f hb ⟨(.iface 49 (.pointer (some ⟨r, 0, none⟩))), s.rBuf, (s.roff), 0, 0, s.H, s.bits, s.cbits, (.slice (some ⟨hb, 0, none⟩) (32768) (32768)), (s.wr), (s.rd), (s.full), (s.b0), (s.b1), (s.b2), (s.b3), s.step, (s.ss), (s.final), s.err, s.toRead, s.hl, s.hd, (xs.length), (s.cd)⟩ (by show s.wr < 32768; omega) hS) ?_
  rintro z8 w8 ⟨hz8, hS⟩
  replace hz8 : z8 = (.slice (some ⟨hb, s.wr, none⟩) ((32768 - s.wr)) ((32768 - s.wr))) := hz8
  subst hz8
  replace hS : Sat G w8 ((blk f 1054 (D ⟨(.iface 49 (.pointer (some ⟨r, 0, none⟩))), s.rBuf, (s.roff), 0, 0, s.H, s.bits, s.cbits, (.slice (some ⟨hb, 0, none⟩) (32768) (32768)), (s.wr), (s.rd), (s.full), (s.b0), (s.b1), (s.b2), (s.b3), s.step, (s.ss), (s.final), s.err, s.toRead, s.hl, s.hd, (xs.length), (s.cd)⟩)) :: (Br r B (i)) :: (blk hb 32768 (fun j => u8 (hist j))) :: R) := hS
  refine TW.at hS ?_
  refine TL.val (r_asg (.t m0)) ?_
  refine TL.sub (.hd (.tl (.tl (.tl (.tl .refl))))) ?_
  refine TL.nil ?_
  refine EX.seq ?_
  refine CT.cut (X := Unit) (fun gx => [(2, (.slice (some ⟨hb, s.wr, none⟩) (m) ((32768 - s.wr)))), (0, (.pointer (some ⟨f, 0, none⟩)))]) (fun gx => (blk f 1054 (D ⟨(.iface 49 (.pointer (some ⟨r, 0, none⟩))), s.rBuf, (s.roff), 0, 0, s.H, s.bits, s.cbits, (.slice (some ⟨hb, 0, none⟩) (32768) (32768)), (s.wr), (s.rd), (s.full), (s.b0), (s.b1), (s.b2), (s.b3), s.step, (s.ss), (s.final), s.err, s.toRead, s.hl, s.hd, (xs.length), (s.cd)⟩)) :: (blk hb 32768 (fun j => u8 (hist j))) :: (Br r B (i)) :: R) (fun gx => True) ?_ ?_
  ·
    refine CT.seq ?_
    refine CT.region ?_
    refine TL.val (r_move (.t m0)) ?_
    refine TL.val (r_len Tryz.underlying22 (.t m0)) ?_
    refine TL.val (r_move (.t m3)) ?_
    refine TL.val (r_nil (.t m0)) ?_
    refine TL.val (r_fa (off' := 1052) fo_103_18 (.t m0)) ?_
    refine TL.val (r_ld (v := (.int .i64 ((xs.length : Nat) : Int))) Tryz.isAgg3 m0 (.t m0) (by decide) (Dget_cl _)) ?_
    refine TL.val (n_gtr ((32768 - s.wr)) (xs.length) (.t m4) (.t m0) rfl rfl) ?_
    refine TL.sub (.hd (.tl (.tl (.tl (.tl (.tl (.tl .refl))))))) ?_
    refine TL.nil ?_
    refine EX.seq ?_
    refine CT.ifd m0 (fun c15 => ?_) (fun c15 => ?_)
    ·
      refine CT.sub (.tl .refl) ?_
      refine CT.region ?_
      refine TL.val (r_move (.t m0)) ?_
      refine TL.val (r_move (.t m2)) ?_
      refine TL.val (r_nil (.t m0)) ?_
      refine TL.val (r_fa (off' := 1052) fo_103_18 (.t m0)) ?_
      refine TL.val (r_ld (v := (.int .i64 ((xs.length : Nat) : Int))) Tryz.isAgg3 m0 (.t m0) (by decide) (Dget_cl _)) ?_
      refine TL.val (r_slice (off' := s.wr) (m := xs.length) (c' := (32768 - s.wr)) Tryz.underlying22 Tryz.sizeOf5 (.t m4) .no (.so (j := xs.length) (.t m0) rfl) (by first | (show 0 ≤ xs.length; omega) | (show xs.length ≤ 32768 - s.wr; omega)) (by first | (show 0 ≤ xs.length; omega) | (show xs.length ≤ 32768 - s.wr; omega)) (by simp) (by simp) (by simp)) ?_
      refine TL.rm (.there (.there (.there (.there (.there (.there .here)))))) ?_
      refine TL.val (r_asg (.t m0)) ?_
      refine TL.sub (.hd (.tl (.tl (.tl (.tl (.tl (.tl .refl))))))) ?_
      refine TL.nil ?_
      refine EX.perm p1 ?_
      refine EX.perm p2 ?_
      refine EX.perm p2 ?_
      exact EX.meet (()) (trivial) (.refl _) (.eq m0 (by congr 1; omega) (.cons m1 .nil))
    ·
      refine CT.sub (.tl .refl) ?_
      refine CT.skip ?_
      refine EX.perm p1 ?_
      refine EX.perm p2 ?_
      refine EX.perm p2 ?_
      exact EX.meet (()) (trivial) (.refl _) (.eq m0 (by congr 1; omega) (.cons m1 .nil))
  ·
    rintro ⟨⟩ -
    show CT _ _ _ [(2, (.slice (some ⟨hb, s.wr, none⟩) (m) ((32768 - s.wr)))), (0, (.pointer (some ⟨f, 0, none⟩)))] _ _ ((blk f 1054 (D ⟨(.iface 49 (.pointer (some ⟨r, 0, none⟩))), s.rBuf, (s.roff), 0, 0, s.H, s.bits, s.cbits, (.slice (some ⟨hb, 0, none⟩) (32768) (32768)), (s.wr), (s.rd), (s.full), (s.b0), (s.b1), (s.b2), (s.b3), s.step, (s.ss), (s.final), s.err, s.toRead, s.hl, s.hd, (xs.length), (s.cd)⟩)) :: (blk hb 32768 (fun j => u8 (hist j))) :: (Br r B (i)) :: R)
    refine CT.seq ?_
    refine CT.region ?_
    refine TL.val (r_move (.t m1)) ?_
    refine TL.val (r_nil (.t m0)) ?_
    refine TL.val (r_fa (off' := 0) fo_103_0 (.t m0)) ?_
    refine TL.val (r_ld (v := (.iface 49 (.pointer (some ⟨r, 0, none⟩)))) Tryz.isAgg87 m0 (.t m0) (by decide) (Dget_r _)) ?_
    refine TL.val (r_move (.t m4)) ?_
    refine TL.perm p1 ?_
    refine TL.perm p2 ?_
    refine TL.call (r_call ce_107 (.cons (.t m1) (.cons (.t m0) .nil))) (fun w hS => t107 r (i) hb (s.wr) (32768) (m) ((32768 - s.wr)) ((fun j => u8 (hist j))) B (by omega) (by omega) (by omega) (by omega) hS) ?_
    rintro _ w28 ⟨rfl, hS⟩
    refine TW.at hS ?_
    refine TL.val (r_move (.t m0)) ?_
    refine TL.val (r_ext (.t m0)) ?_
    refine TL.val (r_ext (.t m1)) ?_
    refine TL.val (r_asg (.t m1)) ?_
    refine TL.val (r_asg (.t m1)) ?_
    refine TL.sub (.hd (.hd (.tl (.tl (.tl (.tl (.tl (.tl (.tl (.tl (.tl .refl))))))))))) ?_
    refine TL.nil ?_
    refine EX.seq ?_
    refine CT.seq ?_
    refine CT.fold (A' := (blk hb 32768 (fun j => u8 ((updh hist s.wr (xs.take m)) j)))) a1 (blk_eq rfl (by rw [bytes_at hd hx (by omega)]; exact updl_hist)) ?_
    refine CT.region ?_
    refine TL.val (r_move (.t m3)) ?_
    refine TL.val (r_nil (.t m0)) ?_
    refine TL.val (r_fa (off' := 2) fo_103_2 (.t m0)) ?_
    refine TL.val (r_ld (v := (.int .i64 ((s.roff : Nat) : Int))) Tryz.isAgg2 m2 (.t m0) (by decide) (Dget_roff _)) ?_
    refine TL.val (r_move (.t m5)) ?_
    refine TL.val (n_add (s.roff) (m) 9223372036854775808 (.t m1) (.t m0) rfl rfl (by omega)) ?_
    refine TL.val (r_nil (.t m5)) ?_
    refine TL.val (r_fa (off' := 2) fo_103_2 (.t m0)) ?_
    refine TL.s (r_st (F' := D ⟨(.iface 49 (.pointer (some ⟨r, 0, none⟩))), s.rBuf, ((s.roff + m)), 0, 0, s.H, s.bits, s.cbits, (.slice (some ⟨hb, 0, none⟩) (32768) (32768)), (s.wr), (s.rd), (s.full), (s.b0), (s.b1), (s.b2), (s.b3), s.step, (s.ss), (s.final), s.err, s.toRead, s.hl, s.hd, (xs.length), (s.cd)⟩) Tryz.sizeOf2 (Dset_roff ⟨(.iface 49 (.pointer (some ⟨r, 0, none⟩))), s.rBuf, (s.roff), 0, 0, s.H, s.bits, s.cbits, (.slice (some ⟨hb, 0, none⟩) (32768) (32768)), (s.wr), (s.rd), (s.full), (s.b0), (s.b1), (s.b2), (s.b3), s.step, (s.ss), (s.final), s.err, s.toRead, s.hl, s.hd, (xs.length), (s.cd)⟩ ((s.roff + m))) a2 (.t m0) (.t m2) (by decide)) ?_
    refine TL.sub (.tl (.tl (.tl (.tl (.tl (.tl (.tl (.tl .refl)))))))) ?_
    refine TL.nil ?_
    refine EX.seq ?_
    refine CT.seq ?_
    refine CT.region ?_
    refine TL.val (r_move (.t m3)) ?_
    refine TL.val (r_nil (.t m0)) ?_
    refine TL.val (r_fa (off' := 1052) fo_103_18 (.t m0)) ?_
    refine TL.val (r_ld (v := (.int .i64 ((xs.length : Nat) : Int))) Tryz.isAgg3 m2 (.t m0) (by decide) (Dget_cl _)) ?_
    refine TL.val (r_move (.t m5)) ?_
    refine TL.val (n_sub (xs.length) (m) 9223372036854775808 (.t m1) (.t m0) rfl rfl (by omega) (by omega)) ?_
    refine TL.val (r_nil (.t m5)) ?_
    refine TL.val (r_fa (off' := 1052) fo_103_18 (.t m0)) ?_
    refine TL.s (r_st (F' := D ⟨(.iface 49 (.pointer (some ⟨r, 0, none⟩))), s.rBuf, ((s.roff + m)), 0, 0, s.H, s.bits, s.cbits, (.slice (some ⟨hb, 0, none⟩) (32768) (32768)), (s.wr), (s.rd), (s.full), (s.b0), (s.b1), (s.b2), (s.b3), s.step, (s.ss), (s.final), s.err, s.toRead, s.hl, s.hd, ((xs.length - m)), (s.cd)⟩) Tryz.sizeOf3 (Dset_cl ⟨(.iface 49 (.pointer (some ⟨r, 0, none⟩))), s.rBuf, ((s.roff + m)), 0, 0, s.H, s.bits, s.cbits, (.slice (some ⟨hb, 0, none⟩) (32768) (32768)), (s.wr), (s.rd), (s.full), (s.b0), (s.b1), (s.b2), (s.b3), s.step, (s.ss), (s.final), s.err, s.toRead, s.hl, s.hd, (xs.length), (s.cd)⟩ ((xs.length - m))) a2 (.t m0) (.t m2) (by decide)) ?_
    refine TL.sub (.tl (.tl (.tl (.tl (.tl (.tl (.tl (.tl .refl)))))))) ?_
    refine TL.nil ?_
    refine EX.seq ?_
    refine CT.seq ?_
    refine CT.region ?_
    refine TL.val (r_move (.t m3)) ?_
    refine TL.val (r_nil (.t m0)) ?_
    refine TL.val (r_fa (off' := 1037) fo_103_9 (.t m0)) ?_
    refine TL.val (r_move (.t m4)) ?_
    refine TL.perm p2 ?_
    refine TL.call (r_call ce_126 (.cons (.t m1) (.cons (.t m0) .nil))) (fun w hS => t126 f hb ⟨(.iface 49 (.pointer (some ⟨r, 0, none⟩))), s.rBuf, ((s.roff + m)), 0, 0, s.H, s.bits, s.cbits, (.slice (some ⟨hb, 0, none⟩) (32768) (32768)), (s.wr), (s.rd), (s.full), (s.b0), (s.b1), (s.b2), (s.b3), s.step, (s.ss), (s.final), s.err, s.toRead, s.hl, s.hd, ((xs.length - m)), (s.cd)⟩ (m) (by show s.wr + m ≤ 32768; omega) hS) ?_
    rintro z51 w51 ⟨hz51, hS⟩
    replace hz51 : z51 = (.tuple #[]) := hz51
    subst hz51
    replace hS : Sat G w51 ((blk f 1054 (D ⟨(.iface 49 (.pointer (some ⟨r, 0, none⟩))), s.rBuf, ((s.roff + m)), 0, 0, s.H, s.bits, s.cbits, (.slice (some ⟨hb, 0, none⟩) (32768) (32768)), ((s.wr + m)), (s.rd), (s.full), (s.b0), (s.b1), (s.b2), (s.b3), s.step, (s.ss), (s.final), s.err, s.toRead, s.hl, s.hd, ((xs.length - m)), (s.cd)⟩)) :: (Br r B (i + (m))) :: (blk hb 32768 (fun j => u8 ((updh hist s.wr (xs.take m)) j))) :: R) := hS
    refine TW.at hS ?_
    refine TL.sub (.tl (.tl (.tl (.tl (.tl .refl))))) ?_
    refine TL.nil ?_
    refine EX.seq ?_
    refine CT.seq ?_
    refine CT.seq ?_
    refine CT.region ?_
    refine TL.val (r_move (.t m0)) ?_
    refine TL.val (r_nen Tryz.underlying82 (.t m0)) ?_
    refine TL.sub (.hd (.tl .refl)) ?_
    refine TL.nil ?_
    refine EX.seq ?_
    refine CT.iff_ m0 ?_
    refine CT.sub (.tl .refl) ?_
    refine CT.skip ?_
    refine EX.seq ?_
    refine CT.seq ?_
    refine CT.seq ?_
    refine CT.region ?_
    refine TL.val (r_move (.t m3)) ?_
    refine TL.val (r_nil (.t m0)) ?_
    refine TL.val (r_fa (off' := 1037) fo_103_9 (.t m0)) ?_
    refine TL.call (r_call ce_114 (.cons (.t m0) .nil)) (fun w hS => t114 f hb ⟨(.iface 49 (.pointer (some ⟨r, 0, none⟩))), s.rBuf, ((s.roff + m)), 0, 0, s.H, s.bits, s.cbits, (.slice (some ⟨hb, 0, none⟩) (32768) (32768)), ((s.wr + m)), (s.rd), (s.full), (s.b0), (s.b1), (s.b2), (s.b3), s.step, (s.ss), (s.final), s.err, s.toRead, s.hl, s.hd, ((xs.length - m)), (s.cd)⟩ (by show (s.wr + m) ≤ 32768; omega) hS) ?_
    rintro z62 w62 ⟨hz62, hS⟩
    replace hz62 : z62 = (.int .i64 (((32768 - (s.wr + m)) : Nat) : Int)) := hz62
    subst hz62
    replace hS : Sat G w62 ((blk f 1054 (D ⟨(.iface 49 (.pointer (some ⟨r, 0, none⟩))), s.rBuf, ((s.roff + m)), 0, 0, s.H, s.bits, s.cbits, (.slice (some ⟨hb, 0, none⟩) (32768) (32768)), ((s.wr + m)), (s.rd), (s.full), (s.b0), (s.b1), (s.b2), (s.b3), s.step, (s.ss), (s.final), s.err, s.toRead, s.hl, s.hd, ((xs.length - m)), (s.cd)⟩)) :: (Br r B (i + (m))) :: (blk hb 32768 (fun j => u8 ((updh hist s.wr (xs.take m)) j))) :: R) := hS
    refine TW.at hS ?_
    refine TL.val (n_eql ((32768 - (s.wr + m))) (0) (.t m0) .c rfl rfl) ?_
    refine TL.val (r_move (.t m0)) ?_
    by_cases g64 : (32768 - (s.wr + m)) = 0
    ·
      refine TL.sub (ρ' := [(64, (.bool true)), (63, (.bool true)), (62, (.int .i64 (((32768 - (s.wr + m)) : Nat) : Int))), (61, (.pointer (some ⟨f, 1037, none⟩))), (60, (.pointer (some ⟨f, 0, none⟩))), (59, (.pointer (some ⟨f, 0, none⟩))), (4, .nilIface), (3, (.int .i64 ((m : Nat) : Int))), (2, (.slice (some ⟨hb, s.wr, none⟩) (m) ((32768 - s.wr)))), (0, (.pointer (some ⟨f, 0, none⟩)))]) (.eq m0 (congrArg Value.bool (decide_eq_true g64)) (.eq m1 (congrArg Value.bool (decide_eq_true g64)) (.cons m2 (.cons m3 (.cons m4 (.cons m5 (.cons m6 (.cons m7 (.cons m8 (.cons m9 .nil)))))))))) ?_
      refine TL.gn m0 ?_
      refine TL.gn m0 ?_
      refine TL.gn m0 ?_
      refine TL.gn m0 ?_
      refine TL.gn m0 ?_
      refine TL.val (r_pickt (.t m0) .c) ?_
      refine TL.sub (.hd (.tl (.tl (.tl (.tl (.tl (.tl .refl))))))) ?_
      refine TL.nil ?_
      refine EX.seq ?_
      refine CT.ift m0 ?_
      refine CT.sub (.tl .refl) ?_
      refine CT.seq ?_
      refine CT.region ?_
      refine TL.val (r_move (.t m3)) ?_
      refine TL.val (r_move (.t m4)) ?_
      refine TL.val (r_nil (.t m0)) ?_
      refine TL.val (r_fa (off' := 1037) fo_103_9 (.t m0)) ?_
      refine TL.call (r_call ce_108 (.cons (.t m0) .nil)) (fun w hS => t108 f hb ⟨(.iface 49 (.pointer (some ⟨r, 0, none⟩))), s.rBuf, ((s.roff + m)), 0, 0, s.H, s.bits, s.cbits, (.slice (some ⟨hb, 0, none⟩) (32768) (32768)), ((s.wr + m)), (s.rd), (s.full), (s.b0), (s.b1), (s.b2), (s.b3), s.step, (s.ss), (s.final), s.err, s.toRead, s.hl, s.hd, ((xs.length - m)), (s.cd)⟩ (by show s.rd ≤ (s.wr + m); omega) (by show (s.wr + m) ≤ 32768; omega) (by show s.rd < 32768; omega) hS) ?_
      rintro z75 w75 ⟨hz75, hS⟩
      replace hz75 : z75 = (.slice (some ⟨hb, s.rd, none⟩) (((s.wr + m) - s.rd)) ((32768 - s.rd))) := hz75
      subst hz75
      replace hS : Sat G w75 ((blk f 1054 (D ⟨(.iface 49 (.pointer (some ⟨r, 0, none⟩))), s.rBuf, ((s.roff + m)), 0, 0, s.H, s.bits, s.cbits, (.slice (some ⟨hb, 0, none⟩) (32768) (32768)), (((s.wr + m) % 32768)), (((s.wr + m) % 32768)), ((s.full) || decide ((s.wr + m) = 32768)), (s.b0), (s.b1), (s.b2), (s.b3), s.step, (s.ss), (s.final), s.err, s.toRead, s.hl, s.hd, ((xs.length - m)), (s.cd)⟩)) :: (Br r B (i + (m))) :: (blk hb 32768 (fun j => u8 ((updh hist s.wr (xs.take m)) j))) :: R) := hS
      refine TW.at hS ?_
      refine TL.val (r_nil (.t m4)) ?_
      refine TL.val (r_fa (off' := 1049) fo_103_15 (.t m0)) ?_
      refine TL.s (r_st (F' := D ⟨(.iface 49 (.pointer (some ⟨r, 0, none⟩))), s.rBuf, ((s.roff + m)), 0, 0, s.H, s.bits, s.cbits, (.slice (some ⟨hb, 0, none⟩) (32768) (32768)), (((s.wr + m) % 32768)), (((s.wr + m) % 32768)), ((s.full) || decide ((s.wr + m) = 32768)), (s.b0), (s.b1), (s.b2), (s.b3), s.step, (s.ss), (s.final), s.err, (.slice (some ⟨hb, s.rd, none⟩) (((s.wr + m) - s.rd)) ((32768 - s.rd))), s.hl, s.hd, ((xs.length - m)), (s.cd)⟩) Tryz.sizeOf22 (Dset_toRead ⟨(.iface 49 (.pointer (some ⟨r, 0, none⟩))), s.rBuf, ((s.roff + m)), 0, 0, s.H, s.bits, s.cbits, (.slice (some ⟨hb, 0, none⟩) (32768) (32768)), (((s.wr + m) % 32768)), (((s.wr + m) % 32768)), ((s.full) || decide ((s.wr + m) = 32768)), (s.b0), (s.b1), (s.b2), (s.b3), s.step, (s.ss), (s.final), s.err, s.toRead, s.hl, s.hd, ((xs.length - m)), (s.cd)⟩ (.slice (some ⟨hb, s.rd, none⟩) (((s.wr + m) - s.rd)) ((32768 - s.rd)))) a0 (.t m0) (.t m2) (by decide)) ?_
      refine TL.sub (.tl (.tl (.tl (.tl (.tl (.tl (.tl .refl))))))) ?_
      refine TL.nil ?_
      refine EX.seq ?_
      refine CT.seq ?_
      refine CT.region ?_
      refine TL.val (r_move (.t m3)) ?_
      refine TL.val (r_nil (.t m0)) ?_
      refine TL.val (r_fa (off' := 1045) fo_103_11 (.t m0)) ?_
      refine TL.s (r_st (F' := D ⟨(.iface 49 (.pointer (some ⟨r, 0, none⟩))), s.rBuf, ((s.roff + m)), 0, 0, s.H, s.bits, s.cbits, (.slice (some ⟨hb, 0, none⟩) (32768) (32768)), (((s.wr + m) % 32768)), (((s.wr + m) % 32768)), ((s.full) || decide ((s.wr + m) = 32768)), (s.b0), (s.b1), (s.b2), (s.b3), (.func (.func 110) #[] #[]), (s.ss), (s.final), s.err, (.slice (some ⟨hb, s.rd, none⟩) (((s.wr + m) - s.rd)) ((32768 - s.rd))), s.hl, s.hd, ((xs.length - m)), (s.cd)⟩) Tryz.sizeOf100 (Dset_step ⟨(.iface 49 (.pointer (some ⟨r, 0, none⟩))), s.rBuf, ((s.roff + m)), 0, 0, s.H, s.bits, s.cbits, (.slice (some ⟨hb, 0, none⟩) (32768) (32768)), (((s.wr + m) % 32768)), (((s.wr + m) % 32768)), ((s.full) || decide ((s.wr + m) = 32768)), (s.b0), (s.b1), (s.b2), (s.b3), s.step, (s.ss), (s.final), s.err, (.slice (some ⟨hb, s.rd, none⟩) (((s.wr + m) - s.rd)) ((32768 - s.rd))), s.hl, s.hd, ((xs.length - m)), (s.cd)⟩ (.func (.func 110) #[] #[])) a0 (.t m0) .f (by decide)) ?_
      refine TL.sub (.tl (.tl (.tl .refl))) ?_
      refine TL.nil ?_
      refine EX.seq ?_
      refine CT.ret ?_
      refine EX.then_ret ?_
      refine EX.perm p2 ?_
      refine EX.perm p2 ?_
      refine EX.perm p2 ?_
      exact EX.end_ (.inl rfl) (res0 Tryz.results110) (fun _ hS => copy_full H hu herr hcl hnb hb0 hx hd ha (by omega) (by omega) hmu (hS.D (by cases s; simp_all)))
    ·
      refine TL.sub (ρ' := [(64, (.bool false)), (63, (.bool false)), (62, (.int .i64 (((32768 - (s.wr + m)) : Nat) : Int))), (61, (.pointer (some ⟨f, 1037, none⟩))), (60, (.pointer (some ⟨f, 0, none⟩))), (59, (.pointer (some ⟨f, 0, none⟩))), (4, .nilIface), (3, (.int .i64 ((m : Nat) : Int))), (2, (.slice (some ⟨hb, s.wr, none⟩) (m) ((32768 - s.wr)))), (0, (.pointer (some ⟨f, 0, none⟩)))]) (.eq m0 (congrArg Value.bool (decide_eq_false g64)) (.eq m1 (congrArg Value.bool (decide_eq_false g64)) (.cons m2 (.cons m3 (.cons m4 (.cons m5 (.cons m6 (.cons m7 (.cons m8 (.cons m9 .nil)))))))))) ?_
      refine TL.gv m0 (r_move (.t m9)) ?_
      refine TL.gv m1 (r_nil (.t m0)) ?_
      refine TL.gv m2 (r_fa (off' := 1052) fo_103_18 (.t m0)) ?_
      refine TL.gv m3 (r_ld (v := (.int .i64 (((xs.length - m) : Nat) : Int))) Tryz.isAgg3 m0 (.t m0) (by decide) (Dget_cl _)) ?_
      refine TL.gv m4 (n_gtr ((xs.length - m)) (0) (.t m0) .c rfl rfl) ?_
      refine TL.val (r_pickf (.t m5) (.t m0)) ?_
      refine TL.sub (.hd (.tl (.tl (.tl (.tl (.tl (.tl (.tl (.tl (.tl (.tl (.tl .refl)))))))))))) ?_
      refine TL.nil ?_
      refine EX.seq ?_
      refine CT.ifd m0 (fun c70 => ?_) (fun c70 => ?_)
      ·
        refine CT.sub (.tl .refl) ?_
        refine CT.seq ?_
        refine CT.region ?_
        refine TL.val (r_move (.t m3)) ?_
        refine TL.val (r_move (.t m4)) ?_
        refine TL.val (r_nil (.t m0)) ?_
        refine TL.val (r_fa (off' := 1037) fo_103_9 (.t m0)) ?_
        refine TL.call (r_call ce_108 (.cons (.t m0) .nil)) (fun w hS => t108 f hb ⟨(.iface 49 (.pointer (some ⟨r, 0, none⟩))), s.rBuf, ((s.roff + m)), 0, 0, s.H, s.bits, s.cbits, (.slice (some ⟨hb, 0, none⟩) (32768) (32768)), ((s.wr + m)), (s.rd), (s.full), (s.b0), (s.b1), (s.b2), (s.b3), s.step, (s.ss), (s.final), s.err, s.toRead, s.hl, s.hd, ((xs.length - m)), (s.cd)⟩ (by show s.rd ≤ (s.wr + m); omega) (by show (s.wr + m) ≤ 32768; omega) (by show s.rd < 32768; omega) hS) ?_
        rintro z75 w75 ⟨hz75, hS⟩
        replace hz75 : z75 = (.slice (some ⟨hb, s.rd, none⟩) (((s.wr + m) - s.rd)) ((32768 - s.rd))) := hz75
        subst hz75
        replace hS : Sat G w75 ((blk f 1054 (D ⟨(.iface 49 (.pointer (some ⟨r, 0, none⟩))), s.rBuf, ((s.roff + m)), 0, 0, s.H, s.bits, s.cbits, (.slice (some ⟨hb, 0, none⟩) (32768) (32768)), (((s.wr + m) % 32768)), (((s.wr + m) % 32768)), ((s.full) || decide ((s.wr + m) = 32768)), (s.b0), (s.b1), (s.b2), (s.b3), s.step, (s.ss), (s.final), s.err, s.toRead, s.hl, s.hd, ((xs.length - m)), (s.cd)⟩)) :: (Br r B (i + (m))) :: (blk hb 32768 (fun j => u8 ((updh hist s.wr (xs.take m)) j))) :: R) := hS
        refine TW.at hS ?_
        refine TL.val (r_nil (.t m4)) ?_
        refine TL.val (r_fa (off' := 1049) fo_103_15 (.t m0)) ?_
        refine TL.s (r_st (F' := D ⟨(.iface 49 (.pointer (some ⟨r, 0, none⟩))), s.rBuf, ((s.roff + m)), 0, 0, s.H, s.bits, s.cbits, (.slice (some ⟨hb, 0, none⟩) (32768) (32768)), (((s.wr + m) % 32768)), (((s.wr + m) % 32768)), ((s.full) || decide ((s.wr + m) = 32768)), (s.b0), (s.b1), (s.b2), (s.b3), s.step, (s.ss), (s.final), s.err, (.slice (some ⟨hb, s.rd, none⟩) (((s.wr + m) - s.rd)) ((32768 - s.rd))), s.hl, s.hd, ((xs.length - m)), (s.cd)⟩) Tryz.sizeOf22 (Dset_toRead ⟨(.iface 49 (.pointer (some ⟨r, 0, none⟩))), s.rBuf, ((s.roff + m)), 0, 0, s.H, s.bits, s.cbits, (.slice (some ⟨hb, 0, none⟩) (32768) (32768)), (((s.wr + m) % 32768)), (((s.wr + m) % 32768)), ((s.full) || decide ((s.wr + m) = 32768)), (s.b0), (s.b1), (s.b2), (s.b3), s.step, (s.ss), (s.final), s.err, s.toRead, s.hl, s.hd, ((xs.length - m)), (s.cd)⟩ (.slice (some ⟨hb, s.rd, none⟩) (((s.wr + m) - s.rd)) ((32768 - s.rd)))) a0 (.t m0) (.t m2) (by decide)) ?_
        refine TL.sub (.tl (.tl (.tl (.tl (.tl (.tl (.tl .refl))))))) ?_
        refine TL.nil ?_
        refine EX.seq ?_
        refine CT.seq ?_
        refine CT.region ?_
        refine TL.val (r_move (.t m3)) ?_
        refine TL.val (r_nil (.t m0)) ?_
        refine TL.val (r_fa (off' := 1045) fo_103_11 (.t m0)) ?_
        refine TL.s (r_st (F' := D ⟨(.iface 49 (.pointer (some ⟨r, 0, none⟩))), s.rBuf, ((s.roff + m)), 0, 0, s.H, s.bits, s.cbits, (.slice (some ⟨hb, 0, none⟩) (32768) (32768)), (((s.wr + m) % 32768)), (((s.wr + m) % 32768)), ((s.full) || decide ((s.wr + m) = 32768)), (s.b0), (s.b1), (s.b2), (s.b3), (.func (.func 110) #[] #[]), (s.ss), (s.final), s.err, (.slice (some ⟨hb, s.rd, none⟩) (((s.wr + m) - s.rd)) ((32768 - s.rd))), s.hl, s.hd, ((xs.length - m)), (s.cd)⟩) Tryz.sizeOf100 (Dset_step ⟨(.iface 49 (.pointer (some ⟨r, 0, none⟩))), s.rBuf, ((s.roff + m)), 0, 0, s.H, s.bits, s.cbits, (.slice (some ⟨hb, 0, none⟩) (32768) (32768)), (((s.wr + m) % 32768)), (((s.wr + m) % 32768)), ((s.full) || decide ((s.wr + m) = 32768)), (s.b0), (s.b1), (s.b2), (s.b3), s.step, (s.ss), (s.final), s.err, (.slice (some ⟨hb, s.rd, none⟩) (((s.wr + m) - s.rd)) ((32768 - s.rd))), s.hl, s.hd, ((xs.length - m)), (s.cd)⟩ (.func (.func 110) #[] #[])) a0 (.t m0) .f (by decide)) ?_
        refine TL.sub (.tl (.tl (.tl .refl))) ?_
        refine TL.nil ?_
        refine EX.seq ?_
        refine CT.ret ?_
        refine EX.then_ret ?_
        refine EX.perm p2 ?_
        refine EX.perm p2 ?_
        refine EX.perm p2 ?_
        exact EX.end_ (.inl rfl) (res0 Tryz.results110) (fun _ hS => copy_full H hu herr hcl hnb hb0 hx hd ha (by omega) (by omega) hmu (hS.D (by cases s; simp_all)))
      ·
        refine CT.sub (.tl .refl) ?_
        refine CT.skip ?_
        refine EX.seq ?_
        refine CT.region ?_
        refine TL.val (r_move (.t m3)) ?_
        refine TL.call (r_call ce_109 (.cons (.t m0) .nil)) (fun w hS => t109 f hb ⟨(.iface 49 (.pointer (some ⟨r, 0, none⟩))), s.rBuf, ((s.roff + m)), 0, 0, s.H, s.bits, s.cbits, (.slice (some ⟨hb, 0, none⟩) (32768) (32768)), ((s.wr + m)), (s.rd), (s.full), (s.b0), (s.b1), (s.b2), (s.b3), s.step, (s.ss), (s.final), s.err, s.toRead, s.hl, s.hd, ((xs.length - m)), (s.cd)⟩ (by show s.rd ≤ (s.wr + m); omega) (by show (s.wr + m) < 32768; omega) hE hS) ?_
        rintro _ w82 ⟨rfl, hS⟩
        refine TW.at hS ?_
        refine TL.sub (.tl (.tl .refl)) ?_
        refine TL.nil ?_
        refine EX.perm p2 ?_
        refine EX.perm p2 ?_
        refine EX.perm p2 ?_
        exact EX.end_ (.inr rfl) (res0 Tryz.results110) (fun _ hS => copy_fin H hu htr herr hnb hb0 hd ha (by omega) (by omega) hmu (hS.D (congrArg (finS · hb _) (by cases s; simp_all))))
end Go.Eng
