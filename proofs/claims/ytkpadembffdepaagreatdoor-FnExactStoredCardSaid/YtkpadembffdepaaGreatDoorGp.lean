/- The walks of new readers, and of all that one gives. -/
import Derived.Test.YtkpadembffdepaaGreatDoorGo
namespace Go.Eng
open Go Go.Proofs Go.Infl
set_option maxRecDepth 20000
set_option linter.unusedSimpArgs false
set_option linter.unusedVariables false


theorem dict4 {s : DS} {v : Value} {a b : Nat} {c : Bool} : updl (D s) 1037 [v, i64 a, i64 b, .bool c] = D { s with hist := v, wr := a, rd := b, full := c } := by
  show upd (upd (upd (upd (D s) 1037 _) 1038 _) 1039 _) 1040 _ = _
  rw [Dset_hist, Dset_wr, Dset_rd, Dset_full]
theorem ones4 {a b c d : Value} (ha : one a = true := by rfl) (hb : one b = true := by rfl) (hc : one c = true := by rfl) (hd : one d = true := by rfl) : ∀ x ∈ [a, b, c, d], one x = true := fun x hx => by
  rcases List.mem_cons.1 hx with rfl | h
  · exact ha
  · exact ones3 hb hc hd x h
theorem dropCD {G w : World} {R : List HProp} {A B C D : HProp} (h : Sat G w (A :: B :: C :: D :: R)) : Sat G w (A :: B :: R) := ((h.perm p3).tail.perm p2).tail
theorem start_rs {G w : World} {R : List HProp} {f r hb bb cb : Nat} {B st tail : List Bool} {out : List Nat} {ea : Addr} (hB : B = st ++ tail) (hst : Strm 0 st [] out)
    (hS : Sat G w ((blk f 1054 (D ⟨(.iface 49 (.pointer (some ⟨r, 0, none⟩))), (.pointer none), 0, 0, 0, Hz, (.pointer (some ⟨bb, 0, none⟩)), (.pointer (some ⟨cb, 0, none⟩)), (.slice (some ⟨hb, 0, none⟩) (32768) (32768)), 0, 0, false, 0, 0, 0, 0, (.func (.func 68) #[] #[]), 0, false, .nilIface, (.slice none 0 0), (.pointer none), (.pointer none), 0, 0⟩)) :: Br r B 0 :: blk hb 32768 (fun j => u8 ((fun _ => 0) j)) :: R)) : Sat G w (RSA f r hb B ([] ++ out) (.iface 187 (.pointer (some ea))) [] (· < 1000 * B.length + 1) :: R) := by
  refine RS.toA ⟨_, 0, fun _ => 0, [], [], [], ⟨rfl, rfl, Win.zero, Nat.le_refl _, by show 0 < 32768; decide, rfl, Nat.zero_le _⟩, rfl, rfl, .inl ⟨rfl, rfl⟩, .inl ⟨rfl, 1000 * (B.length - 0), by show _ < _; omega, plEmp ?_ hS⟩⟩
  intro m
  exact .blk (k := 0) (st := st) (tail := tail) rfl (Nat.zero_le _) (Held.zero (i := 0)) (by rw [List.drop_zero]; exact hB) hst rfl
theorem t70 {sv : Value} {B : List Bool} {G : World} {R : List HProp} {w : World} (hS : Sat G w ((slc 1 sv ((pack B).length) ((pack B).map u8)) :: R)) :
    CallsR Tryz.prog 70 #[sv] w (fun v w' => ∃ r : Nat, v = .pointer (some ⟨r, 0, none⟩) ∧ Sat G w' (Br r B 0 :: R)) := by
  refine calls_in (n := 6) [(0, sv)] Tryz.func70 rfl rfl hS args1 ?_
  refine CT.seq ?_
  refine CT.region ?_
  refine TL.val (r_asg .c) ?_
  refine TL.nil ?_
  refine EX.seq ?_
  refine CT.seq ?_
  refine CT.expose (fun w hS => hS.slc_shape m0) ?_
  rintro ⟨-, hsv0⟩
  obtain ⟨sp, sl, sc, hsv⟩ : ∃ p l c, sv = .slice p l c := by rcases hsv0 with ⟨h, _⟩ | ⟨b, c, h, _⟩ <;> exact ⟨_, _, _, h⟩
  refine CT.region ?_
  refine TL.val (r_move (.t m1)) ?_
  refine TL.val (r_build (v := (.agg #[sv, (.int .i64 0), (.int .i64 ((-1)))])) (.cons (.t m0) (.cons .c (.cons .c .nil))) (fun _ => by rw [hsv]; kernel_rfl)) ?_
  refine TL.w (r_box (F := lst [sv, (.int .i64 0), (.int .i64 ((-1)))]) (.t m0) rfl rfl lst_ok) ?_
  rintro _ w5 ⟨b5, rfl, hS⟩
  refine TW.at hS ?_
  refine TL.rm (.there (.there (.there .here))) ?_
  refine TL.val (r_asg (.t m0)) ?_
  refine TL.sub (.hd (.tl (.tl (.tl (.tl .refl))))) ?_
  refine TL.nil ?_
  refine EX.seq ?_
  refine CT.ret ?_
  exact EX.end_ (.inl rfl) (res1 Tryz.results70 m0) (fun _ hS => ⟨b5, rfl, hS.unbr⟩)
theorem t43 {sv : Value} {B : List Bool} (hBl : B.length < 1099511627776) {G : World} {R : List HProp} {w : World} (hS : Sat G w ((slc 1 sv ((pack B).length) ((pack B).map u8)) :: R)) :
    CallsR Tryz.prog 43 #[sv] w (fun v w' => ∃ r : Nat, v = .pointer (some ⟨r, 0, none⟩) ∧ Sat G w' (Br r B 0 :: slc 1 sv (pack B).length ((pack B).map u8) :: R)) := by
  have hpl := pack_length B
  refine calls_in (n := 7) [(0, sv)] Tryz.func43 rfl rfl hS args1 ?_
  refine CT.seq ?_
  refine CT.region ?_
  refine TL.val (r_asg .c) ?_
  refine TL.nil ?_
  refine EX.seq ?_
  refine CT.seq ?_
  refine CT.region ?_
  refine TL.w (r_buildSlice (k := 0) (e := 5) (cs := #[]) (F := lst []) .nil (fun _ => by kernel_rfl) rfl lst_ok) ?_
  rintro _ w3 ⟨b3, rfl, hS⟩
  refine TW.at hS ?_
  refine TL.val (r_move (.t m2)) ?_
  refine TL.fold (A' := (slc 1 (.slice (some ⟨b3, 0, none⟩) (0) (0)) (0) ([]))) a0 (mk_slc1 rfl (by decide) (by intro j x h; cases h)) ?_
  refine TL.w (r_appends (j := (pack B).length) (k := 0) (ds := (pack B).map u8) el_22 Tryz.underlying22 (.t m1) (.t m0) m1 (ones_map one_u8) (by omega) (by omega)) ?_
  rintro v5 w5 hS
  have ho5 := hS.slc_one
  refine TW.at hS ?_
  refine TL.fold (A' := (slc 1 v5 ((pack B).length) ((pack B).map u8))) a0 (slc_eq (Nat.zero_add _) (List.nil_append _)) ?_
  refine TL.call (r_call ce_70 (.cons (.t m0) .nil)) (fun w hS => t70 (B := B) hS) ?_
  rintro _ w6 ⟨r, rfl, hS⟩
  refine TW.at hS ?_
  refine TL.rm (.there (.there (.there (.there .here)))) ?_
  refine TL.val (r_asg (.t m0)) ?_
  refine TL.sub (.hd (.tl (.tl (.tl (.tl (.tl .refl)))))) ?_
  refine TL.nil ?_
  refine EX.seq ?_
  refine CT.ret ?_
  exact EX.end_ (.inl rfl) (res1 Tryz.results43 m0) (fun _ hS => ⟨r, rfl, hS⟩)
theorem t67 (f r : Nat) (s : DS) {G : World} {R : List HProp} {w : World} (hS : Sat G w ((blk f 1054 (D ⟨s.r, s.rBuf, (s.roff), (s.b), (s.nb), s.H, s.bits, s.cbits, s.hist, (s.wr), (s.rd), (s.full), (s.b0), (s.b1), (s.b2), (s.b3), s.step, (s.ss), (s.final), s.err, s.toRead, s.hl, s.hd, (s.cl), (s.cd)⟩)) :: R)) :
    CallsR Tryz.prog 67 #[(.pointer (some ⟨f, 0, none⟩)), (.iface 49 (.pointer (some ⟨r, 0, none⟩)))] w (fun v w' => v = .tuple #[] ∧ Sat G w' ((blk f 1054 (D ⟨(.iface 49 (.pointer (some ⟨r, 0, none⟩))), (.pointer none), (s.roff), (s.b), (s.nb), s.H, s.bits, s.cbits, s.hist, (s.wr), (s.rd), (s.full), (s.b0), (s.b1), (s.b2), (s.b3), s.step, (s.ss), (s.final), s.err, s.toRead, s.hl, s.hd, (s.cl), (s.cd)⟩)) :: R)) := by
  refine calls_in (n := 43) [(0, (.pointer (some ⟨f, 0, none⟩))), (1, (.iface 49 (.pointer (some ⟨r, 0, none⟩))))] Tryz.func67 rfl rfl hS args2 ?_
  refine CT.seq ?_
  refine CT.seq ?_
  refine CT.region ?_
  refine TL.val (r_move (.t m1)) ?_
  refine TL.val (r_ta (.t m0) (ta_87 r)) ?_
  refine TL.val (r_move (.t m0)) ?_
  refine TL.val (r_ext (.t m0)) ?_
  refine TL.val (r_ext (.t m1)) ?_
  refine TL.val (r_asg (.t m1)) ?_
  refine TL.val (r_asg (.t m1)) ?_
  refine TL.sub (.hd (.hd (.tl (.tl (.tl (.tl (.tl .refl))))))) ?_
  refine TL.nil ?_
  refine EX.seq ?_
  refine CT.seq ?_
  refine CT.region ?_
  refine TL.val (r_move (.t m0)) ?_
  refine TL.sub (.hd (.tl .refl)) ?_
  refine TL.nil ?_
  refine EX.seq ?_
  refine CT.ift m0 ?_
  refine CT.sub (.tl .refl) ?_
  refine CT.seq ?_
  refine CT.region ?_
  refine TL.val (r_move (.t m1)) ?_
  refine TL.val (r_nil (.t m0)) ?_
  refine TL.val (r_fa (off' := 1) fo_103_1 (.t m0)) ?_
  refine TL.s (r_st (F' := D ⟨s.r, (.pointer none), (s.roff), (s.b), (s.nb), s.H, s.bits, s.cbits, s.hist, (s.wr), (s.rd), (s.full), (s.b0), (s.b1), (s.b2), (s.b3), s.step, (s.ss), (s.final), s.err, s.toRead, s.hl, s.hd, (s.cl), (s.cd)⟩) Tryz.sizeOf88 (Dset_rBuf ⟨s.r, s.rBuf, (s.roff), (s.b), (s.nb), s.H, s.bits, s.cbits, s.hist, (s.wr), (s.rd), (s.full), (s.b0), (s.b1), (s.b2), (s.b3), s.step, (s.ss), (s.final), s.err, s.toRead, s.hl, s.hd, (s.cl), (s.cd)⟩ (.pointer none)) a0 (.t m0) .c (by decide)) ?_
  refine TL.sub (.tl (.tl (.tl .refl))) ?_
  refine TL.nil ?_
  refine EX.seq ?_
  refine CT.seq ?_
  refine CT.region ?_
  refine TL.val (r_move (.t m1)) ?_
  refine TL.val (r_move (.t m1)) ?_
  refine TL.val (r_nil (.t m1)) ?_
  refine TL.val (r_fa (off' := 0) fo_103_0 (.t m0)) ?_
  refine TL.s (r_st (F' := D ⟨(.iface 49 (.pointer (some ⟨r, 0, none⟩))), (.pointer none), (s.roff), (s.b), (s.nb), s.H, s.bits, s.cbits, s.hist, (s.wr), (s.rd), (s.full), (s.b0), (s.b1), (s.b2), (s.b3), s.step, (s.ss), (s.final), s.err, s.toRead, s.hl, s.hd, (s.cl), (s.cd)⟩) Tryz.sizeOf87 (Dset_r ⟨s.r, (.pointer none), (s.roff), (s.b), (s.nb), s.H, s.bits, s.cbits, s.hist, (s.wr), (s.rd), (s.full), (s.b0), (s.b1), (s.b2), (s.b3), s.step, (s.ss), (s.final), s.err, s.toRead, s.hl, s.hd, (s.cl), (s.cd)⟩ (.iface 49 (.pointer (some ⟨r, 0, none⟩)))) a0 (.t m0) (.t m2) (by decide)) ?_
  refine TL.sub (.tl (.tl (.tl (.tl (.tl .refl))))) ?_
  refine TL.nil ?_
  refine EX.seq ?_
  refine CT.ret ?_
  refine EX.then_ret ?_
  exact EX.end_ (.inl rfl) (res0 Tryz.results67) (fun _ hS => ⟨rfl, hS⟩)
theorem t69 (f : Nat) (s : DS) {G : World} {R : List HProp} {w : World} (hS : Sat G w ((blk f 1054 (D ⟨s.r, s.rBuf, (s.roff), (s.b), (s.nb), s.H, s.bits, s.cbits, (.slice none 0 0), (s.wr), (s.rd), (s.full), (s.b0), (s.b1), (s.b2), (s.b3), s.step, (s.ss), (s.final), s.err, s.toRead, s.hl, s.hd, (s.cl), (s.cd)⟩)) :: R)) :
    CallsR Tryz.prog 69 #[(.pointer (some ⟨f, 1037, none⟩)), (.int .i64 32768), (.slice none 0 0)] w (fun _ w' => ∃ hb : Nat, Sat G w' ((blk f 1054 (D ⟨s.r, s.rBuf, (s.roff), (s.b), (s.nb), s.H, s.bits, s.cbits, (.slice (some ⟨hb, 0, none⟩) (32768) (32768)), 0, 0, false, (s.b0), (s.b1), (s.b2), (s.b3), s.step, (s.ss), (s.final), s.err, s.toRead, s.hl, s.hd, (s.cl), (s.cd)⟩)) :: blk hb 32768 (fun j => u8 ((fun _ => 0) j)) :: R)) := by
  refine calls_in (n := 84) [(0, (.pointer (some ⟨f, 1037, none⟩))), (1, (.int .i64 32768)), (2, (.slice none 0 0))] Tryz.func69 rfl rfl hS args3 ?_
  refine CT.seq ?_
  refine CT.region ?_
  refine TL.val (r_move (.t m0)) ?_
  refine TL.val (r_move (.t m1)) ?_
  refine TL.val (r_nil (.t m0)) ?_
  refine TL.val (r_fa (off' := 1037) fo_98_0 (.t m0)) ?_
  refine TL.val (r_ld (v := (.slice none 0 0)) Tryz.isAgg22 m0 (.t m0) (by decide) (Dget_hist _)) ?_
  refine TL.val (r_build (v := (.agg #[(.slice none 0 0), (.int .i64 0), (.int .i64 0), (.bool false)])) (.cons (.t m0) .nil) (fun _ => by kernel_rfl)) ?_
  refine TL.val (r_nil (.t m5)) ?_
  refine TL.s (r_stagg (cs := [.slice none 0 0, .int .i64 0, .int .i64 0, .bool false]) Tryz.sizeOf98 (.t m0) (.t m1) rfl (by decide) ones4) ?_
  refine TL.fold (A' := (blk f 1054 (D ⟨s.r, s.rBuf, (s.roff), (s.b), (s.nb), s.H, s.bits, s.cbits, (.slice none 0 0), 0, 0, false, (s.b0), (s.b1), (s.b2), (s.b3), s.step, (s.ss), (s.final), s.err, s.toRead, s.hl, s.hd, (s.cl), (s.cd)⟩))) a0 (blk_eq rfl dict4) ?_
  refine TL.sub (.tl (.tl (.tl (.tl (.tl (.tl (.tl .refl))))))) ?_
  refine TL.nil ?_
  refine EX.seq ?_
  refine CT.seq ?_
  refine CT.seq ?_
  refine CT.region ?_
  refine TL.val (r_move (.t m0)) ?_
  refine TL.val (r_nil (.t m0)) ?_
  refine TL.val (r_fa (off' := 1037) fo_98_0 (.t m0)) ?_
  refine TL.val (r_ld (v := (.slice none 0 0)) Tryz.isAgg22 m0 (.t m0) (by decide) (Dget_hist _)) ?_
  refine TL.val (r_cap Tryz.underlying22 (.t m0)) ?_
  refine TL.val (r_move (.t m6)) ?_
  refine TL.val (show Run _ _ _ _ _ _ (.bool true) from n_lss (0) (32768) (.t m1) (.t m0) rfl rfl) ?_
  refine TL.sub (.hd (.tl (.tl (.tl (.tl (.tl (.tl .refl))))))) ?_
  refine TL.nil ?_
  refine EX.seq ?_
  refine CT.ift m0 ?_
  refine CT.sub (.tl .refl) ?_
  refine CT.region ?_
  refine TL.val (r_move (.t m0)) ?_
  refine TL.val (r_move (.t m2)) ?_
  refine TL.w (r_make (l := 32768) (c := 32768) Tryz.underlying22 Tryz.sizeOf5 ⟨_, Tryz.typeInfo5, rfl⟩ Tryz.zeroValue5 rfl (.t m0) (.t m0) rfl rfl (by omega) (by exact Nat.le_of_ble_eq_true rfl) (by omega)) ?_
  rintro _ w22 ⟨b22, rfl, hS⟩
  refine TW.at hS ?_
  refine TL.val (r_nil (.t m2)) ?_
  refine TL.val (r_fa (off' := 1037) fo_98_0 (.t m0)) ?_
  refine TL.s (r_st (F' := D ⟨s.r, s.rBuf, (s.roff), (s.b), (s.nb), s.H, s.bits, s.cbits, (.slice (some ⟨b22, 0, none⟩) (32768) (32768)), 0, 0, false, (s.b0), (s.b1), (s.b2), (s.b3), s.step, (s.ss), (s.final), s.err, s.toRead, s.hl, s.hd, (s.cl), (s.cd)⟩) Tryz.sizeOf22 (Dset_hist ⟨s.r, s.rBuf, (s.roff), (s.b), (s.nb), s.H, s.bits, s.cbits, (.slice none 0 0), 0, 0, false, (s.b0), (s.b1), (s.b2), (s.b3), s.step, (s.ss), (s.final), s.err, s.toRead, s.hl, s.hd, (s.cl), (s.cd)⟩ (.slice (some ⟨b22, 0, none⟩) (32768) (32768))) a1 (.t m0) (.t m2) (by decide)) ?_
  refine TL.sub (.tl (.tl (.tl (.tl (.tl .refl))))) ?_
  refine TL.nil ?_
  refine EX.seq ?_
  refine CT.seq ?_
  refine CT.region ?_
  refine TL.val (r_move (.t m0)) ?_
  refine TL.val (r_move (.t m1)) ?_
  refine TL.val (r_nil (.t m0)) ?_
  refine TL.val (r_fa (off' := 1037) fo_98_0 (.t m0)) ?_
  refine TL.val (r_ld (v := (.slice (some ⟨b22, 0, none⟩) (32768) (32768))) Tryz.isAgg22 m1 (.t m0) (by decide) (Dget_hist _)) ?_
  refine TL.val (r_move (.t m6)) ?_
  refine TL.val (r_slice (off' := 0) (m := 32768) (c' := 32768) Tryz.underlying22 Tryz.sizeOf5 (.t m1) .no (.so (j := 32768) (.t m0) rfl) (by decide) (by decide) (by simp) (by simp) (by simp)) ?_
  refine TL.val (r_nil (.t m6)) ?_
  refine TL.val (r_fa (off' := 1037) fo_98_0 (.t m0)) ?_
  refine TL.s (r_st (F' := D ⟨s.r, s.rBuf, (s.roff), (s.b), (s.nb), s.H, s.bits, s.cbits, (.slice (some ⟨b22, 0, none⟩) (32768) (32768)), 0, 0, false, (s.b0), (s.b1), (s.b2), (s.b3), s.step, (s.ss), (s.final), s.err, s.toRead, s.hl, s.hd, (s.cl), (s.cd)⟩) Tryz.sizeOf22 (Dset_hist ⟨s.r, s.rBuf, (s.roff), (s.b), (s.nb), s.H, s.bits, s.cbits, (.slice (some ⟨b22, 0, none⟩) (32768) (32768)), 0, 0, false, (s.b0), (s.b1), (s.b2), (s.b3), s.step, (s.ss), (s.final), s.err, s.toRead, s.hl, s.hd, (s.cl), (s.cd)⟩ (.slice (some ⟨b22, 0, none⟩) (32768) (32768))) a1 (.t m0) (.t m2) (by decide)) ?_
  refine TL.sub (.tl (.tl (.tl (.tl (.tl (.tl (.tl (.tl (.tl .refl))))))))) ?_
  refine TL.nil ?_
  refine EX.seq ?_
  refine CT.seq ?_
  refine CT.seq ?_
  refine CT.region ?_
  refine TL.val (r_move (.t m2)) ?_
  refine TL.val (r_len Tryz.underlying22 (.t m0)) ?_
  refine TL.val (r_move (.t m2)) ?_
  refine TL.val (r_nil (.t m0)) ?_
  refine TL.val (r_fa (off' := 1037) fo_98_0 (.t m0)) ?_
  refine TL.val (r_ld (v := (.slice (some ⟨b22, 0, none⟩) (32768) (32768))) Tryz.isAgg22 m1 (.t m0) (by decide) (Dget_hist _)) ?_
  refine TL.val (r_len Tryz.underlying22 (.t m0)) ?_
  refine TL.val (show Run _ _ _ _ _ _ (.bool false) from n_gtr (0) (32768) (.t m5) (.t m0) rfl rfl) ?_
  refine TL.sub (.hd (.tl (.tl (.tl (.tl (.tl (.tl (.tl .refl)))))))) ?_
  refine TL.nil ?_
  refine EX.seq ?_
  refine CT.iff_ m0 ?_
  refine CT.sub (.tl .refl) ?_
  refine CT.skip ?_
  refine EX.seq ?_
  refine CT.seq ?_
  refine CT.region ?_
  refine TL.val (r_move (.t m0)) ?_
  refine TL.val (r_move (.t m1)) ?_
  refine TL.val (r_nil (.t m0)) ?_
  refine TL.val (r_fa (off' := 1037) fo_98_0 (.t m0)) ?_
  refine TL.val (r_ld (v := (.slice (some ⟨b22, 0, none⟩) (32768) (32768))) Tryz.isAgg22 m1 (.t m0) (by decide) (Dget_hist _)) ?_
  refine TL.val (r_move (.t m7)) ?_
  refine TL.val (show Run _ _ _ _ _ _ (.int .i64 0) from r_copy0 el_22 (.t m1) (.t m0) (by decide)) ?_
  refine TL.val (r_nil (.t m6)) ?_
  refine TL.val (r_fa (off' := 1038) fo_98_1 (.t m0)) ?_
  refine TL.s (r_st (F' := D ⟨s.r, s.rBuf, (s.roff), (s.b), (s.nb), s.H, s.bits, s.cbits, (.slice (some ⟨b22, 0, none⟩) (32768) (32768)), 0, 0, false, (s.b0), (s.b1), (s.b2), (s.b3), s.step, (s.ss), (s.final), s.err, s.toRead, s.hl, s.hd, (s.cl), (s.cd)⟩) Tryz.sizeOf3 (Dset_wr ⟨s.r, s.rBuf, (s.roff), (s.b), (s.nb), s.H, s.bits, s.cbits, (.slice (some ⟨b22, 0, none⟩) (32768) (32768)), 0, 0, false, (s.b0), (s.b1), (s.b2), (s.b3), s.step, (s.ss), (s.final), s.err, s.toRead, s.hl, s.hd, (s.cl), (s.cd)⟩ 0) a1 (.t m0) (.t m2) (by decide)) ?_
  refine TL.sub (.tl (.tl (.tl (.tl (.tl (.tl (.tl (.tl (.tl .refl))))))))) ?_
  refine TL.nil ?_
  refine EX.seq ?_
  refine CT.seq ?_
  refine CT.seq ?_
  refine CT.still fm (by kernel_rfl) ?_
  refine TS.val (r_move (.t m0)) ?_
  refine TS.val (r_nil (.t m0)) ?_
  refine TS.val (r_fa (off' := 1038) fo_98_1 (.t m0)) ?_
  refine TS.val (r_ld (v := (.int .i64 0)) Tryz.isAgg3 m1 (.t m0) (by decide) (Dget_wr _)) ?_
  refine TS.val (r_move (.t m4)) ?_
  refine TS.val (r_nil (.t m0)) ?_
  refine TS.val (r_fa (off' := 1037) fo_98_0 (.t m0)) ?_
  refine TS.val (r_ld (v := (.slice (some ⟨b22, 0, none⟩) (32768) (32768))) Tryz.isAgg22 m1 (.t m0) (by decide) (Dget_hist _)) ?_
  refine TS.val (r_len Tryz.underlying22 (.t m0)) ?_
  refine TS.val (show Run _ _ _ _ _ _ (.bool false) from n_eql (0) (32768) (.t m5) (.t m0) rfl rfl) ?_
  refine TS.nil ?_
  refine TL.sub (.hd (.tl (.tl (.tl (.tl (.tl (.tl (.tl (.tl (.tl .refl)))))))))) ?_
  refine TL.nil ?_
  refine EX.seq ?_
  refine CT.iff_ m0 ?_
  refine CT.sub (.tl .refl) ?_
  refine CT.skip ?_
  refine EX.seq ?_
  refine CT.region ?_
  refine TL.val (r_move (.t m0)) ?_
  refine TL.val (r_move (.t m1)) ?_
  refine TL.val (r_nil (.t m0)) ?_
  refine TL.val (r_fa (off' := 1038) fo_98_1 (.t m0)) ?_
  refine TL.val (r_ld (v := (.int .i64 0)) Tryz.isAgg3 m1 (.t m0) (by decide) (Dget_wr _)) ?_
  refine TL.val (r_nil (.t m4)) ?_
  refine TL.val (r_fa (off' := 1039) fo_98_2 (.t m0)) ?_
  refine TL.s (r_st (F' := D ⟨s.r, s.rBuf, (s.roff), (s.b), (s.nb), s.H, s.bits, s.cbits, (.slice (some ⟨b22, 0, none⟩) (32768) (32768)), 0, 0, false, (s.b0), (s.b1), (s.b2), (s.b3), s.step, (s.ss), (s.final), s.err, s.toRead, s.hl, s.hd, (s.cl), (s.cd)⟩) Tryz.sizeOf3 (Dset_rd ⟨s.r, s.rBuf, (s.roff), (s.b), (s.nb), s.H, s.bits, s.cbits, (.slice (some ⟨b22, 0, none⟩) (32768) (32768)), 0, 0, false, (s.b0), (s.b1), (s.b2), (s.b3), s.step, (s.ss), (s.final), s.err, s.toRead, s.hl, s.hd, (s.cl), (s.cd)⟩ 0) a1 (.t m0) (.t m2) (by decide)) ?_
  refine TL.sub (.tl (.tl (.tl (.tl (.tl (.tl (.tl .refl))))))) ?_
  refine TL.nil ?_
  refine EX.perm p1 ?_
  exact EX.end_ (.inr rfl) (res0 Tryz.results69) (fun _ hS => ⟨b22, hS⟩)
theorem t42 (r : Nat) {G : World} {R : List HProp} {w : World} (hS : Sat G w (R)) :
    CallsR Tryz.prog 42 #[(.iface 49 (.pointer (some ⟨r, 0, none⟩)))] w (fun v w' => ∃ f hb bb cb : Nat, v = .iface 107 (.pointer (some ⟨f, 0, none⟩)) ∧ Sat G w' ((blk f 1054 (D ⟨(.iface 49 (.pointer (some ⟨r, 0, none⟩))), (.pointer none), 0, 0, 0, Hz, (.pointer (some ⟨bb, 0, none⟩)), (.pointer (some ⟨cb, 0, none⟩)), (.slice (some ⟨hb, 0, none⟩) (32768) (32768)), 0, 0, false, 0, 0, 0, 0, (.func (.func 68) #[] #[]), 0, false, .nilIface, (.slice none 0 0), (.pointer none), (.pointer none), 0, 0⟩)) :: blk hb 32768 (fun j => u8 ((fun _ => 0) j)) :: blk bb 316 (fun _ => .int .i64 0) :: blk cb 19 (fun _ => .int .i64 0) :: R)) := by
  refine calls_in (n := 14) [(0, (.iface 49 (.pointer (some ⟨r, 0, none⟩))))] Tryz.func42 rfl rfl hS args1 ?_
  refine CT.seq ?_
  refine CT.region ?_
  refine TL.val (r_asg .c) ?_
  refine TL.nil ?_
  refine EX.seq ?_
  refine CT.seq ?_
  refine CT.region ?_
  refine TL.w (r_allocz Tryz.zeroValue103 z103) ?_
  rintro _ w3 ⟨f, rfl, hS⟩
  refine TW.at hS ?_
  refine TL.nil ?_
  refine EX.seq ?_
  refine CT.seq ?_
  refine CT.region ?_
  refine TL.val (r_move (.t m2)) ?_
  refine TL.call (r_call ce_67 (.cons (.t m1) (.cons (.t m0) .nil))) (fun w hS => t67 f r ⟨.nilIface, (.pointer none), 0, 0, 0, Hz, (.pointer none), (.pointer none), (.slice none 0 0), 0, 0, false, 0, 0, 0, 0, .nilFunc, 0, false, .nilIface, (.slice none 0 0), (.pointer none), (.pointer none), 0, 0⟩ hS) ?_
  rintro z5 w5 ⟨hz5, hS⟩
  replace hz5 : z5 = (.tuple #[]) := hz5
  subst hz5
  replace hS : Sat G w5 ((blk f 1054 (D ⟨(.iface 49 (.pointer (some ⟨r, 0, none⟩))), (.pointer none), 0, 0, 0, Hz, (.pointer none), (.pointer none), (.slice none 0 0), 0, 0, false, 0, 0, 0, 0, .nilFunc, 0, false, .nilIface, (.slice none 0 0), (.pointer none), (.pointer none), 0, 0⟩)) :: R) := hS
  refine TW.at hS ?_
  refine TL.sub (.tl (.tl (.hd (.hd (.tl .refl))))) ?_
  refine TL.nil ?_
  refine EX.seq ?_
  refine CT.seq ?_
  refine CT.region ?_
  refine TL.w (r_allocz Tryz.zeroValue105 z105) ?_
  rintro _ w6 ⟨bb, rfl, hS⟩
  refine TW.at hS ?_
  refine TL.val (r_fa (off' := 1035) fo_103_7 (.t m1)) ?_
  refine TL.s (r_st (F' := D ⟨(.iface 49 (.pointer (some ⟨r, 0, none⟩))), (.pointer none), 0, 0, 0, Hz, (.pointer (some ⟨bb, 0, none⟩)), (.pointer none), (.slice none 0 0), 0, 0, false, 0, 0, 0, 0, .nilFunc, 0, false, .nilIface, (.slice none 0 0), (.pointer none), (.pointer none), 0, 0⟩) Tryz.sizeOf95 (Dset_bits ⟨(.iface 49 (.pointer (some ⟨r, 0, none⟩))), (.pointer none), 0, 0, 0, Hz, (.pointer none), (.pointer none), (.slice none 0 0), 0, 0, false, 0, 0, 0, 0, .nilFunc, 0, false, .nilIface, (.slice none 0 0), (.pointer none), (.pointer none), 0, 0⟩ (.pointer (some ⟨bb, 0, none⟩))) a1 (.t m0) (.t m1) (by decide)) ?_
  refine TL.sub (.tl (.tl .refl)) ?_
  refine TL.nil ?_
  refine EX.seq ?_
  refine CT.seq ?_
  refine CT.region ?_
  refine TL.w (r_allocz Tryz.zeroValue106 z106) ?_
  rintro _ w8 ⟨cb, rfl, hS⟩
  refine TW.at hS ?_
  refine TL.val (r_fa (off' := 1036) fo_103_8 (.t m1)) ?_
  refine TL.s (r_st (F' := D ⟨(.iface 49 (.pointer (some ⟨r, 0, none⟩))), (.pointer none), 0, 0, 0, Hz, (.pointer (some ⟨bb, 0, none⟩)), (.pointer (some ⟨cb, 0, none⟩)), (.slice none 0 0), 0, 0, false, 0, 0, 0, 0, .nilFunc, 0, false, .nilIface, (.slice none 0 0), (.pointer none), (.pointer none), 0, 0⟩) Tryz.sizeOf96 (Dset_cbits ⟨(.iface 49 (.pointer (some ⟨r, 0, none⟩))), (.pointer none), 0, 0, 0, Hz, (.pointer (some ⟨bb, 0, none⟩)), (.pointer none), (.slice none 0 0), 0, 0, false, 0, 0, 0, 0, .nilFunc, 0, false, .nilIface, (.slice none 0 0), (.pointer none), (.pointer none), 0, 0⟩ (.pointer (some ⟨cb, 0, none⟩))) a2 (.t m0) (.t m1) (by decide)) ?_
  refine TL.sub (.tl (.tl .refl)) ?_
  refine TL.nil ?_
  refine EX.seq ?_
  refine CT.seq ?_
  refine CT.region ?_
  refine TL.val (r_fa (off' := 1045) fo_103_11 (.t m0)) ?_
  refine TL.s (r_st (F' := D ⟨(.iface 49 (.pointer (some ⟨r, 0, none⟩))), (.pointer none), 0, 0, 0, Hz, (.pointer (some ⟨bb, 0, none⟩)), (.pointer (some ⟨cb, 0, none⟩)), (.slice none 0 0), 0, 0, false, 0, 0, 0, 0, (.func (.func 68) #[] #[]), 0, false, .nilIface, (.slice none 0 0), (.pointer none), (.pointer none), 0, 0⟩) Tryz.sizeOf100 (Dset_step ⟨(.iface 49 (.pointer (some ⟨r, 0, none⟩))), (.pointer none), 0, 0, 0, Hz, (.pointer (some ⟨bb, 0, none⟩)), (.pointer (some ⟨cb, 0, none⟩)), (.slice none 0 0), 0, 0, false, 0, 0, 0, 0, .nilFunc, 0, false, .nilIface, (.slice none 0 0), (.pointer none), (.pointer none), 0, 0⟩ (.func (.func 68) #[] #[])) a2 (.t m0) .f (by decide)) ?_
  refine TL.sub (.tl .refl) ?_
  refine TL.nil ?_
  refine EX.seq ?_
  refine CT.seq ?_
  refine CT.region ?_
  refine TL.val (r_fa (off' := 1037) fo_103_9 (.t m0)) ?_
  refine TL.perm p2 ?_
  refine TL.call (r_call ce_69 (.cons (.t m0) (.cons .c (.cons .c .nil)))) (fun w hS => t69 f ⟨(.iface 49 (.pointer (some ⟨r, 0, none⟩))), (.pointer none), 0, 0, 0, Hz, (.pointer (some ⟨bb, 0, none⟩)), (.pointer (some ⟨cb, 0, none⟩)), (.slice none 0 0), 0, 0, false, 0, 0, 0, 0, (.func (.func 68) #[] #[]), 0, false, .nilIface, (.slice none 0 0), (.pointer none), (.pointer none), 0, 0⟩ hS) ?_
  rintro _ w12 ⟨hb, hS⟩
  refine TW.at hS ?_
  refine TL.sub (.tl (.tl .refl)) ?_
  refine TL.nil ?_
  refine EX.seq ?_
  refine CT.seq ?_
  refine CT.region ?_
  refine TL.val (r_mki Tryz.underlying107 (.t m0)) ?_
  refine TL.rm (.there (.there .here)) ?_
  refine TL.val (r_asg (.t m0)) ?_
  refine TL.sub (.hd (.tl .refl)) ?_
  refine TL.nil ?_
  refine EX.seq ?_
  refine CT.ret ?_
  refine EX.perm p2 ?_
  refine EX.perm p3 ?_
  refine EX.perm p3 ?_
  refine EX.perm p3 ?_
  exact EX.end_ (.inl rfl) (res1 Tryz.results42 m0) (fun _ hS => ⟨f, hb, bb, cb, rfl, hS⟩)
theorem t18 {G : World} {sv : Value} {B st tail : List Bool} {out : List Nat} {ea : Addr} (hE : EOFIs G ea) (hBl : B.length < 1099511627776) (hB : B = st ++ tail) (hst : Strm 0 st [] out) (ho : out.length ≤ 131072) {R : List HProp} {w : World} (hS : Sat G w ((slc 1 sv ((pack B).length) ((pack B).map u8)) :: R)) :
    CallsR Tryz.prog 18 #[sv, (.int .i64 131072)] w (fun v w' => ∃ v1, v = .tuple #[v1, i64 1] ∧ Sat G w' (slc 1 v1 out.length (out.map u8) :: slc 1 sv (pack B).length ((pack B).map u8) :: R)) := by
  refine calls_in (n := 14) [(0, sv), (1, (.int .i64 131072))] Tryz.func18 rfl rfl hS args2 ?_
  refine CT.seq ?_
  refine CT.region ?_
  refine TL.val (r_asg .c) ?_
  refine TL.val (r_asg .c) ?_
  refine TL.nil ?_
  refine EX.seq ?_
  refine CT.seq ?_
  refine CT.region ?_
  refine TL.val (r_move (.t m2)) ?_
  refine TL.call (r_call ce_43 (.cons (.t m0) .nil)) (fun w hS => t43 (B := B) hBl hS) ?_
  rintro _ w7 ⟨r, rfl, hS⟩
  refine TW.at hS ?_
  refine TL.val (r_mki Tryz.underlying49 (.t m0)) ?_
  refine TL.call (r_call ce_42 (.cons (.t m0) .nil)) (fun w hS => t42 r hS) ?_
  rintro _ w9 ⟨f, hb, bb, cb, rfl, hS⟩
  refine TW.at hS ?_
  refine TL.val (r_move (.t m7)) ?_
  refine TL.perm p1 ?_
  refine TL.perm p4 ?_
  refine TL.perm p2 ?_
  refine TL.conv (fun _ hS => start_rs (ea := ea) (st := st) (tail := tail) (out := out) hB hst hS) ?_
  refine TL.call (r_call ce_41 (.cons (.t m1) (.cons (.t m0) .nil))) (fun w hS => t41 (dd := []) (out := out) hE hBl ho hS) ?_
  rintro _ w11 ⟨v1, rfl, hS⟩
  refine TW.at hS ?_
  refine TL.val (r_ext (.t m0)) ?_
  refine TL.val (r_ext (.t m1)) ?_
  refine TL.rm (.there (.there (.there (.there (.there (.there (.there (.there (.there .here))))))))) ?_
  refine TL.val (r_asg (.t m1)) ?_
  refine TL.rm (.there (.there (.there (.there (.there (.there (.there (.there (.there .here))))))))) ?_
  refine TL.val (r_asg (.t m1)) ?_
  refine TL.sub (.hd (.hd (.tl (.tl (.tl (.tl (.tl (.tl (.tl (.tl (.tl (.tl .refl)))))))))))) ?_
  refine TL.nil ?_
  refine EX.seq ?_
  refine CT.ret ?_
  refine EX.perm p3 ?_
  refine EX.perm p1 ?_
  exact EX.end_ (.inl rfl) (res2 Tryz.results18 m1 m0) (fun _ hS => ⟨v1, rfl, dropCD hS⟩)
end Go.Eng
