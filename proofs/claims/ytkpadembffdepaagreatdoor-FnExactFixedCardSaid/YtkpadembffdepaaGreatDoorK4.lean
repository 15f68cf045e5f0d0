/- Parts of the proof of the card: Hj Bp Hk Hl Bq Hm Hn -/
import Derived.Test.YtkpadembffdepaaGreatDoorK3
set_option maxRecDepth 100000
set_option maxHeartbeats 4000000
set_option linter.unusedVariables false
set_option linter.unusedSimpArgs false
namespace Go.Eng
open Go Go.Proofs Go.Infl
theorem t89_D {G : World} {R : List HProp} {w : World} {bb cb f r hb i k : Nat} {B : List Bool} {hF : List Nat × Bool} {del un ls ds : List Nat} {ea : Addr} {s : DS} {hist : Nat → Nat} {mu0 : Nat} (hE : EOFIs G ea) (hBl : B.length < 1099511627776) (H : Base bb cb r hb B s i hist (del ++ un)) (htr : TR hb hist s.toRead []) (herr : s.err = .nilIface) (h256 : LOk ls 256) {t td : TD} (hhl : s.hl = .pointer (some ⟨f, 5, none⟩)) (hhd : s.hd = .pointer (some ⟨f, 520, none⟩)) (ht : TDok ls t s.H) (hmn : t.mn = ls.getD 256 0) (htd : (TDok ds td (fun j => s.H (515 + j)) ∧ ∀ k, LOk ds k → td.mn ≤ ds.getD k 0) ∨ ∀ y ∈ ds, y = 0)
 (hent : (s.ss = 0 ∧ HI0 B hF del s ls ds mu0 ⟨i, s.b, s.nb, s.wr, k, s.cl, s.cd, hist, del ++ un⟩) ∨ (s.ss = 1 ∧ HI1 B hF del s ls ds mu0 ⟨i, s.b, s.nb, s.wr, k, s.cl, s.cd, hist, del ++ un⟩))
 (hS : Sat G w (blk f 1054 (D s) :: Br r B i :: blk hb 32768 (fun j => u8 (hist j)) :: Lnks t :: Lnks td :: R)) : CallsR Tryz.prog 89 #[.pointer (some ⟨f, 0, none⟩)] w (fun _ w' => Sat G w' (RSA true bb cb f r hb B hF (.iface 187 (.pointer (some ea))) del (· < mu0) :: R)) := by
 have hs : s = { s with r := .iface 49 (.pointer (some ⟨r, 0, none⟩)), roff := i, hist := .slice (some ⟨hb, 0, none⟩) 32768 32768, err := .nilIface, hl := .pointer (some ⟨f, 5, none⟩), hd := .pointer (some ⟨f, 520, none⟩) } := by have h5 := H.r_; have h6 := H.hi; have h7 := H.ro; cases s; simp_all
 replace hS := hS.D hs
 refine calls_in (n := 362) [(0, (.pointer (some ⟨f, 0, none⟩)))] Tryz.func89 rfl rfl hS args1 ?_
 refine CT.scopeJ (X := HX) (fun gx => [(0, (.pointer (some ⟨f, 0, none⟩)))]) (fun gx => [(0, (.pointer (some ⟨f, 0, none⟩)))]) (fun gx => (blk f 1054 (D { s with r := .iface 49 (.pointer (some ⟨r, 0, none⟩)), roff := gx.i, b := gx.b, nb := gx.nb, hist := .slice (some ⟨hb, 0, none⟩) 32768 32768, wr := gx.wr, err := .nilIface, hl := .pointer (some ⟨f, 5, none⟩), hd := .pointer (some ⟨f, 520, none⟩), cl := gx.cl, cd := gx.cd })) :: Br r B gx.i :: blk hb 32768 (fun jj => u8 (gx.hist jj)) :: Lnks t :: Lnks td :: R) (fun gx => (blk f 1054 (D { s with r := .iface 49 (.pointer (some ⟨r, 0, none⟩)), roff := gx.i, b := gx.b, nb := gx.nb, hist := .slice (some ⟨hb, 0, none⟩) 32768 32768, wr := gx.wr, err := .nilIface, hl := .pointer (some ⟨f, 5, none⟩), hd := .pointer (some ⟨f, 520, none⟩), cl := gx.cl, cd := gx.cd })) :: Br r B gx.i :: blk hb 32768 (fun jj => u8 (gx.hist jj)) :: Lnks t :: Lnks td :: R) (HI0 B hF del s ls ds mu0) (HI1 B hF del s ls ds mu0) (fun gx => 2 * (B.length - gx.k)) (fun gx => 2 * (B.length - gx.k) + 1) (by rfl) (by rfl) ?_ ?_ ?_
 ·
  refine CT.seq (CT.seq ?_)
  rcases hent with ⟨hss, hx⟩ | ⟨hss, hx⟩
  ·
   refine CT.fold (A' := (blk f 1054 (D { s with r := .iface 49 (.pointer (some ⟨r, 0, none⟩)), roff := i, hist := .slice (some ⟨hb, 0, none⟩) 32768 32768, ss := 0, err := .nilIface, hl := .pointer (some ⟨f, 5, none⟩), hd := .pointer (some ⟨f, 520, none⟩) }))) a0 (D_eq (by rw [← hss])) (CT.region (TL.m m0 (TL.c m0 (TL.f 1046 fo_103_12 m0 (TL.val (r_ld (v := (.int .i64 0)) Tryz.isAgg3 m0 (.t m0) (by decide) (Dget_ss _)) (TL.sub (.hd .t3) (TL.e (CT.block (CT.q (TL.val (show Run _ _ _ _ _ _ (.bool true) from n_eql 0 0 (.t m0) .c rfl rfl) (TL.a m0 (TL.sub (.hd .t1) (TL.e (CT.ift m0 ?_))))))))))))))
   exact CT.sub .t1 (CT.goto (EX.bgoto (EX.then_goto (EX.fold (A' := (blk f 1054 (D { s with r := .iface 49 (.pointer (some ⟨r, 0, none⟩)), roff := i, hist := .slice (some ⟨hb, 0, none⟩) 32768 32768, err := .nilIface, hl := .pointer (some ⟨f, 5, none⟩), hd := .pointer (some ⟨f, 520, none⟩) }))) a0 (D_eq (by rw [hss])) (EX.jump0 (⟨i, s.b, s.nb, s.wr, k, s.cl, s.cd, hist, del ++ un⟩) hx trivial (.refl _) (.cons m1 .nil))))))
  refine CT.fold (A' := (blk f 1054 (D { s with r := .iface 49 (.pointer (some ⟨r, 0, none⟩)), roff := i, hist := .slice (some ⟨hb, 0, none⟩) 32768 32768, ss := 1, err := .nilIface, hl := .pointer (some ⟨f, 5, none⟩), hd := .pointer (some ⟨f, 520, none⟩) }))) a0 (D_eq (by rw [← hss])) (CT.region (TL.m m0 (TL.c m0 (TL.f 1046 fo_103_12 m0 (TL.val (r_ld (v := (.int .i64 1)) Tryz.isAgg3 m0 (.t m0) (by decide) (Dget_ss _)) (TL.sub (.hd .t3) (TL.e (CT.block (CT.q (TL.val (show Run _ _ _ _ _ _ (.bool false) from n_eql 1 0 (.t m0) .c rfl rfl) (TL.a m0 (TL.sub (.hd .t1) (TL.e (CT.iff_ m0 ?_))))))))))))))
  refine CT.sub .t1 (CT.q (TL.val (show Run _ _ _ _ _ _ (.bool true) from n_eql 1 1 (.t m0) .c rfl rfl) (TL.a m0 (TL.sub (.hd .t1) (TL.e (CT.ift m0 ?_))))))
  exact CT.sub .t1 (CT.goto (EX.bgoto (EX.then_goto (EX.fold (A' := (blk f 1054 (D { s with r := .iface 49 (.pointer (some ⟨r, 0, none⟩)), roff := i, hist := .slice (some ⟨hb, 0, none⟩) 32768 32768, err := .nilIface, hl := .pointer (some ⟨f, 5, none⟩), hd := .pointer (some ⟨f, 520, none⟩) }))) a0 (D_eq (by rw [hss])) (EX.jump1 (⟨i, s.b, s.nb, s.wr, k, s.cl, s.cd, hist, del ++ un⟩) hx trivial (.refl _) (.cons m1 .nil))))))
 ·
  intro x hx
  show CT _ _ _ [(0, (.pointer (some ⟨f, 0, none⟩)))] _ _ (blk f 1054 (D { s with r := .iface 49 (.pointer (some ⟨r, 0, none⟩)), roff := x.i, b := x.b, nb := x.nb, hist := .slice (some ⟨hb, 0, none⟩) 32768 32768, wr := x.wr, err := .nilIface, hl := .pointer (some ⟨f, 5, none⟩), hd := .pointer (some ⟨f, 520, none⟩), cl := x.cl, cd := x.cd }) :: Br r B x.i :: blk hb 32768 (fun jj => u8 (x.hist jj)) :: Lnks t :: Lnks td :: R)
  refine CT.seq (CT.skip (EX.seq (CT.seq (CT.seq ?_))))
  obtain ⟨hstep, hlen⟩ := hx.tail.step
  have hnx := hstep.next
  clear hstep
  have hw := hx.win
  have hwl := hx.wl
  have hrw := hx.rw_
  have hnbl := hx.nbl
  have hmu := hx.mu
  have hheld := hx.held
  have hil := hx.il
  have hE15 := h256.2.2
  have hpB : (pack B).length < 9223372036854775807 := by rw [pack_length]; omega
  have hlb := List.length_drop (i := x.k) (l := B)
  have hnb22 : x.nb ≤ 22 := by omega
  generalize hbits : B.drop x.k = bits at hnx hlen hlb
  rw [← hmn] at hlen
  rcases hnx with @⟨y, rest, hok, hy, htl⟩ | @⟨rest, haf⟩ | @⟨y, rest, hy, hok, he⟩ | @⟨n, c, v, c2, rest, hla, hok, hok2, hda⟩
  ·
   have hmr := Nat.le_trans hlen (Nat.le_of_eq hlb)
   have hlk1 := hok.2.1; have hlk2 := hok.2.2
   rw [List.length_append, symB_length] at hlb
   have hkB : x.k + ls.getD y 0 ≤ B.length := by omega
   clear hlb hlen
   refine CT.region (TL.m m0 (TL.m m1 (TL.c m0 (TL.f 1050 fo_103_16 m0 (TL.val (r_ld (v := (.pointer (some ⟨f, 5, none⟩))) Tryz.isAgg101 m0 (.t m0) (by decide) (Dget_hl _)) (TL.perm p3 (TL.perm p4 (TL.perm p3 (TL.perm p3 (TL.call (r_call ce_112 (.cons (.t m4) (.cons (.t m0) .nil))) (fun w hS => t112 (s := { s with r := .iface 49 (.pointer (some ⟨r, 0, none⟩)), roff := x.i, b := x.b, nb := x.nb, hist := .slice (some ⟨hb, 0, none⟩) 32768 32768, wr := x.wr, err := .nilIface, hl := .pointer (some ⟨f, 5, none⟩), hd := .pointer (some ⟨f, 520, none⟩), cl := x.cl, cd := x.cd }) (k := y) (at_ := x.k) trd_h1 ht hok hbits hheld hnb22 hmr hBl hil rfl rfl hS) ?_))))))))))
   rintro _ w24 ⟨i1, b1, n1, rfl, hk1, hn1, hil1, hS⟩
   replace hS : Sat G w24 (blk f 1054 (D { s with r := .iface 49 (.pointer (some ⟨r, 0, none⟩)), roff := i1, b := b1, nb := n1, hist := .slice (some ⟨hb, 0, none⟩) 32768 32768, wr := x.wr, err := .nilIface, hl := .pointer (some ⟨f, 5, none⟩), hd := .pointer (some ⟨f, 520, none⟩), cl := x.cl, cd := x.cd }) :: Br r B i1 :: Lnks td :: Lnks t :: blk hb 32768 (fun jj => u8 (x.hist jj)) :: R) := hS
   refine TW.at hS ?_
   replace hn1 : n1 + ls.getD y 0 ≤ max x.nb (max t.mn (ls.getD y 0) + 7) := hn1
   rw [hmn] at hn1
   replace hn1 := sym_nb hn1 hnbl hlk1
   have hdr1 := drop_app hbits
   rw [symB_length] at hdr1
   clear hmr
   refine TL.m m0 (TL.val (r_ext (.t m0)) (TL.val (r_ext (.t m1)) (TL.a m1 (TL.a m1 (TL.sub (.hd (.hd .t9)) (TL.e (CT.seq (CT.q (TL.m m0 (TL.val (r_nen Tryz.underlying82 (.t m0)) (TL.sub (.hd .t1) (TL.e (CT.iff_ m0 ?_)))))))))))))
   refine CT.sub .t1 (CT.skip (EX.q (TL.val (r_asg .c) (TL.q (TL.val (r_asg .c) (TL.e (CT.seq (CT.block (CT.q (TL.m m3 (TL.val (n_lss y 256 (.t m0) .c rfl rfl) (TL.a m0 (TL.sub (.hd .t2) (TL.e (CT.ifd m0 (fun c41 => ?_) (fun c41 => ?_))))))))))))))))
   ·
    refine CT.sub .t1 (CT.q (TL.m m4 (TL.c m0 (TL.f 1037 fo_103_9 m0 (TL.m m6 (TL.val (n_conv y 256 ⟨_, Tryz.underlying3⟩ Tryz.underlying5 (.t m0) rfl (by omega)) (TL.perm p4 (TL.perm p1 (TL.call (r_call ce_113 (.cons (.t m2) (.cons (.t m0) .nil))) (fun w hS => t113 f hb { s with r := .iface 49 (.pointer (some ⟨r, 0, none⟩)), roff := i1, b := b1, nb := n1, hist := .slice (some ⟨hb, 0, none⟩) 32768 32768, wr := x.wr, err := .nilIface, hl := .pointer (some ⟨f, 5, none⟩), hd := .pointer (some ⟨f, 520, none⟩), cl := x.cl, cd := x.cd } x.hist y (by show x.wr < 32768; omega) hS) ?_)))))))))
    rintro z49 w49 ⟨hz49, hS⟩
    replace hz49 : z49 = (.tuple #[]) := hz49
    subst hz49
    replace hS : Sat G w49 (blk f 1054 (D { s with r := .iface 49 (.pointer (some ⟨r, 0, none⟩)), roff := i1, b := b1, nb := n1, hist := .slice (some ⟨hb, 0, none⟩) 32768 32768, wr := x.wr + 1, err := .nilIface, hl := .pointer (some ⟨f, 5, none⟩), hd := .pointer (some ⟨f, 520, none⟩), cl := x.cl, cd := x.cd }) :: blk hb 32768 (fun jj => u8 ((updh x.hist x.wr [y]) jj)) :: Br r B i1 :: Lnks td :: Lnks t :: R) := hS
    refine TW.at hS ?_
    have hw1 := hw.write (xs := [y]) (by show x.wr + 1 ≤ 32768; omega)
    replace hw1 : Win (updh x.hist x.wr [y]) (x.wr + 1) s.full (x.h ++ [y]) := hw1
    have hun1 : ∃ un, x.h ++ [y] = del ++ un ∧ un.length = x.wr + 1 - s.rd := un_app hx.un rfl hrw
    refine TL.sub .t6 (TL.e (CT.seq (CT.q (TL.m m4 (TL.c m0 (TL.f 1037 fo_103_9 m0 (TL.call (r_call ce_114 (.cons (.t m0) .nil)) (fun w hS => t114 f hb { s with r := .iface 49 (.pointer (some ⟨r, 0, none⟩)), roff := i1, b := b1, nb := n1, hist := .slice (some ⟨hb, 0, none⟩) 32768 32768, wr := x.wr + 1, err := .nilIface, hl := .pointer (some ⟨f, 5, none⟩), hd := .pointer (some ⟨f, 520, none⟩), cl := x.cl, cd := x.cd } (by show (x.wr + 1) ≤ 32768; omega) hS) ?_)))))))
    rintro z53 w53 ⟨hz53, hS⟩
    replace hz53 : z53 = (i64 (32768 - (x.wr + 1))) := hz53
    subst hz53
    replace hS : Sat G w53 (blk f 1054 (D { s with r := .iface 49 (.pointer (some ⟨r, 0, none⟩)), roff := i1, b := b1, nb := n1, hist := .slice (some ⟨hb, 0, none⟩) 32768 32768, wr := x.wr + 1, err := .nilIface, hl := .pointer (some ⟨f, 5, none⟩), hd := .pointer (some ⟨f, 520, none⟩), cl := x.cl, cd := x.cd }) :: blk hb 32768 (fun jj => u8 ((updh x.hist x.wr [y]) jj)) :: Br r B i1 :: Lnks td :: Lnks t :: R) := hS
    refine TW.at hS ?_
    refine TL.val (n_eql ((32768 - (x.wr + 1))) 0 (.t m0) .c rfl rfl) (TL.sub (.hd .t4) (TL.e (CT.ifd m0 (fun c54 => ?_) (fun c54 => ?_))))
    ·
     refine CT.sub .t1 (CT.q (TL.m m4 (TL.m m5 (TL.c m0 (TL.f 1037 fo_103_9 m0 (TL.call (r_call ce_108 (.cons (.t m0) .nil)) (fun w hS => t108 f hb { s with r := .iface 49 (.pointer (some ⟨r, 0, none⟩)), roff := i1, b := b1, nb := n1, hist := .slice (some ⟨hb, 0, none⟩) 32768 32768, wr := x.wr + 1, err := .nilIface, hl := .pointer (some ⟨f, 5, none⟩), hd := .pointer (some ⟨f, 520, none⟩), cl := x.cl, cd := x.cd } (by show s.rd ≤ (x.wr + 1); omega) (by show (x.wr + 1) ≤ 32768; omega) (by show s.rd < 32768; omega) hS) ?_))))))
     rintro z59 w59 ⟨hz59, hS⟩
     replace hz59 : z59 = (.slice (some ⟨hb, s.rd, none⟩) (((x.wr + 1) - s.rd)) ((32768 - s.rd))) := hz59
     subst hz59
     replace hS : Sat G w59 (blk f 1054 (D { s with r := .iface 49 (.pointer (some ⟨r, 0, none⟩)), roff := i1, b := b1, nb := n1, hist := .slice (some ⟨hb, 0, none⟩) 32768 32768, wr := (x.wr + 1) % 32768, rd := (x.wr + 1) % 32768, full := s.full || decide ((x.wr + 1) = 32768), err := .nilIface, hl := .pointer (some ⟨f, 5, none⟩), hd := .pointer (some ⟨f, 520, none⟩), cl := x.cl, cd := x.cd }) :: blk hb 32768 (fun jj => u8 ((updh x.hist x.wr [y]) jj)) :: Br r B i1 :: Lnks td :: Lnks t :: R) := hS
     refine TW.at hS ?_
     refine TL.c m4 (TL.f 1049 fo_103_15 m0 (TL.s (r_st (F' := D { s with r := .iface 49 (.pointer (some ⟨r, 0, none⟩)), roff := i1, b := b1, nb := n1, hist := .slice (some ⟨hb, 0, none⟩) 32768 32768, wr := (x.wr + 1) % 32768, rd := (x.wr + 1) % 32768, full := s.full || decide ((x.wr + 1) = 32768), err := .nilIface, toRead := .slice (some ⟨hb, s.rd, none⟩) (((x.wr + 1) - s.rd)) ((32768 - s.rd)), hl := .pointer (some ⟨f, 5, none⟩), hd := .pointer (some ⟨f, 520, none⟩), cl := x.cl, cd := x.cd }) Tryz.sizeOf22 (Dsat_toRead (.slice (some ⟨hb, s.rd, none⟩) (((x.wr + 1) - s.rd)) ((32768 - s.rd)))) a0 (.t m0) (.t m2) (by decide)) (TL.sub .t7 (TL.q (TL.m m4 (TL.c m0 (TL.f 1045 fo_103_11 m0 (TL.s (r_st (F' := D { s with r := .iface 49 (.pointer (some ⟨r, 0, none⟩)), roff := i1, b := b1, nb := n1, hist := .slice (some ⟨hb, 0, none⟩) 32768 32768, wr := (x.wr + 1) % 32768, rd := (x.wr + 1) % 32768, full := s.full || decide ((x.wr + 1) = 32768), step := .func (.func 89) #[] #[], err := .nilIface, toRead := .slice (some ⟨hb, s.rd, none⟩) (((x.wr + 1) - s.rd)) ((32768 - s.rd)), hl := .pointer (some ⟨f, 5, none⟩), hd := .pointer (some ⟨f, 520, none⟩), cl := x.cl, cd := x.cd }) Tryz.sizeOf100 (Dsat_step (.func (.func 89) #[] #[])) a0 (.t m0) .f (by decide)) (TL.sub .t3 (TL.q (TL.m m4 (TL.c m0 (TL.f 1046 fo_103_12 m0 (TL.s (r_st (F' := D { s with r := .iface 49 (.pointer (some ⟨r, 0, none⟩)), roff := i1, b := b1, nb := n1, hist := .slice (some ⟨hb, 0, none⟩) 32768 32768, wr := (x.wr + 1) % 32768, rd := (x.wr + 1) % 32768, full := s.full || decide ((x.wr + 1) = 32768), step := .func (.func 89) #[] #[], ss := 0, err := .nilIface, toRead := .slice (some ⟨hb, s.rd, none⟩) (((x.wr + 1) - s.rd)) ((32768 - s.rd)), hl := .pointer (some ⟨f, 5, none⟩), hd := .pointer (some ⟨f, 520, none⟩), cl := x.cl, cd := x.cd }) Tryz.sizeOf3 (Dsat_ss 0) a0 (.t m0) .c (by decide)) (TL.sub .t3 (TL.e (CT.ret (EX.then_ret (EX.bret (EX.then_ret (EX.then_ret (EX.scope_ret ?_))))))))))))))))))))))
     exact EX.perm p3 (EX.perm p4 (EX.perm p3 (EX.perm p4 (EX.perm p4 (EX.end_ (.inl rfl) (res0 Tryz.results89) (fun _ hS => hb_flush (s := s) (ea := ea) (R := R) (s' := { s with r := .iface 49 (.pointer (some ⟨r, 0, none⟩)), roff := i1, b := b1, nb := n1, hist := .slice (some ⟨hb, 0, none⟩) 32768 32768, wr := (x.wr + 1) % 32768, rd := (x.wr + 1) % 32768, full := s.full || decide ((x.wr + 1) = 32768), step := .func (.func 89) #[] #[], ss := 0, err := .nilIface, toRead := .slice (some ⟨hb, s.rd, none⟩) (((x.wr + 1) - s.rd)) ((32768 - s.rd)), hl := .pointer (some ⟨f, 5, none⟩), hd := .pointer (some ⟨f, 520, none⟩), cl := x.cl, cd := x.cd }) (W := x.wr + 1) (k := (x.k + ls.getD y 0)) (ls := ls) (ds := ds) (TB := [(Lnks t), (Lnks td)]) rfl rfl rfl rfl rfl rfl rfl rfl rfl H.ex hw1 (by omega) (by omega) hun1 hil1 (.inl ⟨rfl, rfl⟩) hk1 hn1 (by rw [if_pos rfl, hdr1]; exact htl) (by omega) (fun m hm => ⟨h256, .inr ⟨(t, td), sep_pure ⟨rfl, rfl, ht, hmn, htd⟩ hm⟩⟩) hS))))))
    exact CT.sub .t1 (CT.skip (EX.seq (CT.goto (EX.bgoto (EX.then_goto (EX.then_goto (EX.perm p3 (EX.perm p4 (EX.perm p3 (EX.perm p4 (EX.perm p4 (EX.jump0 (⟨i1, b1, n1, (x.wr + 1), (x.k + ls.getD y 0), x.cl, x.cd, (updh x.hist x.wr [y]), (x.h ++ [y])⟩) (⟨⟨hw1, by show s.rd ≤ x.wr + 1; omega, by show x.wr + 1 < 32768; omega, hk1, hn1, hun1, hil1, hx.s01⟩, by show HTail ls ds s.final (x.k + ls.getD y 0) (B.drop (x.k + ls.getD y 0)) (x.h ++ [y]) hF; rw [hdr1]; exact htl, by show 1000 * (B.length - (x.k + ls.getD y 0)) + 1 ≤ mu0; omega, fun e => by have := hx.z e; show x.cl = 0 ∧ 1 ≤ x.cd ∧ x.cd ≤ (x.h ++ [y]).length ∧ x.cd ≤ 32768; rw [List.length_append]; omega⟩) (by show 2 * (B.length - (x.k + ls.getD y 0)) < 2 * (B.length - x.k); omega) (.refl _) (.cons m4 .nil)))))))))))))
   exfalso; omega
  ·
   have hmr := Nat.le_trans hlen (Nat.le_of_eq hlb)
   have hok := h256
   have hlk1 := hok.2.1; have hlk2 := hok.2.2
   rw [List.length_append, symB_length] at hlb
   have hkB : x.k + ls.getD 256 0 ≤ B.length := by omega
   clear hlb hlen
   refine CT.region (TL.m m0 (TL.m m1 (TL.c m0 (TL.f 1050 fo_103_16 m0 (TL.val (r_ld (v := (.pointer (some ⟨f, 5, none⟩))) Tryz.isAgg101 m0 (.t m0) (by decide) (Dget_hl _)) (TL.perm p3 (TL.perm p4 (TL.perm p3 (TL.perm p3 (TL.call (r_call ce_112 (.cons (.t m4) (.cons (.t m0) .nil))) (fun w hS => t112 (s := { s with r := .iface 49 (.pointer (some ⟨r, 0, none⟩)), roff := x.i, b := x.b, nb := x.nb, hist := .slice (some ⟨hb, 0, none⟩) 32768 32768, wr := x.wr, err := .nilIface, hl := .pointer (some ⟨f, 5, none⟩), hd := .pointer (some ⟨f, 520, none⟩), cl := x.cl, cd := x.cd }) (k := 256) (at_ := x.k) trd_h1 ht hok hbits hheld hnb22 hmr hBl hil rfl rfl hS) ?_))))))))))
   rintro _ w24 ⟨i1, b1, n1, rfl, hk1, hn1, hil1, hS⟩
   replace hS : Sat G w24 (blk f 1054 (D { s with r := .iface 49 (.pointer (some ⟨r, 0, none⟩)), roff := i1, b := b1, nb := n1, hist := .slice (some ⟨hb, 0, none⟩) 32768 32768, wr := x.wr, err := .nilIface, hl := .pointer (some ⟨f, 5, none⟩), hd := .pointer (some ⟨f, 520, none⟩), cl := x.cl, cd := x.cd }) :: Br r B i1 :: Lnks td :: Lnks t :: blk hb 32768 (fun jj => u8 (x.hist jj)) :: R) := hS
   refine TW.at hS ?_
   replace hn1 : n1 + ls.getD 256 0 ≤ max x.nb (max t.mn (ls.getD 256 0) + 7) := hn1
   rw [hmn] at hn1
   replace hn1 := sym_nb0 hn1 hnbl
   have hdr1 := drop_app hbits
   rw [symB_length] at hdr1
   clear hmr
   refine TL.m m0 (TL.val (r_ext (.t m0)) (TL.val (r_ext (.t m1)) (TL.a m1 (TL.a m1 (TL.sub (.hd (.hd .t9)) (TL.e (CT.seq (CT.q (TL.m m0 (TL.val (r_nen Tryz.underlying82 (.t m0)) (TL.sub (.hd .t1) (TL.e (CT.iff_ m0 ?_)))))))))))))
   refine CT.sub .t1 (CT.skip (EX.q (TL.val (r_asg .c) (TL.q (TL.val (r_asg .c) (TL.e (CT.seq (CT.block (CT.q (TL.m m3 (TL.val (show Run _ _ _ _ _ _ (.bool false) from n_lss 256 256 (.t m0) .c rfl rfl) (TL.a m0 (TL.sub (.hd .t2) (TL.e (CT.iff_ m0 ?_)))))))))))))))
   refine CT.sub .t1 (CT.q (TL.m m3 (TL.val (show Run _ _ _ _ _ _ (.bool true) from n_eql 256 256 (.t m0) .c rfl rfl) (TL.a m0 (TL.sub (.hd .t2) (TL.e (CT.ift m0 ?_)))))))
   refine CT.sub .t1 (CT.q (TL.m m4 (TL.call (r_call ce_109 (.cons (.t m0) .nil)) (fun w hS => t109 f hb { s with r := .iface 49 (.pointer (some ⟨r, 0, none⟩)), roff := i1, b := b1, nb := n1, hist := .slice (some ⟨hb, 0, none⟩) 32768 32768, wr := x.wr, err := .nilIface, hl := .pointer (some ⟨f, 5, none⟩), hd := .pointer (some ⟨f, 520, none⟩), cl := x.cl, cd := x.cd } (by show s.rd ≤ x.wr; omega) (by show x.wr < 32768; omega) hE hS) ?_)))
   rintro _ w72 ⟨rfl, hS⟩
   refine TW.at hS ?_
   refine TL.sub .t2 (TL.e (CT.ret (EX.bret (EX.then_ret (EX.then_ret (EX.scope_ret ?_))))))
   exact EX.perm p2 (EX.perm p3 (EX.perm p4 (EX.perm p4 (EX.perm p4 (EX.end_ (.inl rfl) (res0 Tryz.results89) (fun _ hS => hb_fin (ea := ea) (R := R) (s' := { s with r := .iface 49 (.pointer (some ⟨r, 0, none⟩)), roff := i1, b := b1, nb := n1, hist := .slice (some ⟨hb, 0, none⟩) 32768 32768, wr := x.wr, err := .nilIface, hl := .pointer (some ⟨f, 5, none⟩), hd := .pointer (some ⟨f, 520, none⟩), cl := x.cl, cd := x.cd }) (k := x.k + ls.getD 256 0) (TB := [(Lnks t), (Lnks td)]) rfl rfl htr.nil rfl rfl H.ex hw hrw hwl hx.un hil1 hx.sd hx.cl0 hk1 hn1 (by rw [hdr1]; exact haf) (by omega) hS))))))
  ·
   have hmr := Nat.le_trans hlen (Nat.le_of_eq hlb)
   have hlk1 := hok.2.1; have hlk2 := hok.2.2
   rw [List.length_append, symB_length] at hlb
   have hkB : x.k + ls.getD y 0 ≤ B.length := by omega
   clear hlb hlen
   refine CT.region (TL.m m0 (TL.m m1 (TL.c m0 (TL.f 1050 fo_103_16 m0 (TL.val (r_ld (v := (.pointer (some ⟨f, 5, none⟩))) Tryz.isAgg101 m0 (.t m0) (by decide) (Dget_hl _)) (TL.perm p3 (TL.perm p4 (TL.perm p3 (TL.perm p3 (TL.call (r_call ce_112 (.cons (.t m4) (.cons (.t m0) .nil))) (fun w hS => t112 (s := { s with r := .iface 49 (.pointer (some ⟨r, 0, none⟩)), roff := x.i, b := x.b, nb := x.nb, hist := .slice (some ⟨hb, 0, none⟩) 32768 32768, wr := x.wr, err := .nilIface, hl := .pointer (some ⟨f, 5, none⟩), hd := .pointer (some ⟨f, 520, none⟩), cl := x.cl, cd := x.cd }) (k := y) (at_ := x.k) trd_h1 ht hok hbits hheld hnb22 hmr hBl hil rfl rfl hS) ?_))))))))))
   rintro _ w24 ⟨i1, b1, n1, rfl, hk1, hn1, hil1, hS⟩
   replace hS : Sat G w24 (blk f 1054 (D { s with r := .iface 49 (.pointer (some ⟨r, 0, none⟩)), roff := i1, b := b1, nb := n1, hist := .slice (some ⟨hb, 0, none⟩) 32768 32768, wr := x.wr, err := .nilIface, hl := .pointer (some ⟨f, 5, none⟩), hd := .pointer (some ⟨f, 520, none⟩), cl := x.cl, cd := x.cd }) :: Br r B i1 :: Lnks td :: Lnks t :: blk hb 32768 (fun jj => u8 (x.hist jj)) :: R) := hS
   refine TW.at hS ?_
   replace hn1 : n1 + ls.getD y 0 ≤ max x.nb (max t.mn (ls.getD y 0) + 7) := hn1
   rw [hmn] at hn1
   replace hn1 := sym_nb hn1 hnbl hlk1
   have hdr1 := drop_app hbits
   rw [symB_length] at hdr1
   clear hmr
   refine TL.m m0 (TL.val (r_ext (.t m0)) (TL.val (r_ext (.t m1)) (TL.a m1 (TL.a m1 (TL.sub (.hd (.hd .t9)) (TL.e (CT.seq (CT.q (TL.m m0 (TL.val (r_nen Tryz.underlying82 (.t m0)) (TL.sub (.hd .t1) (TL.e (CT.iff_ m0 ?_)))))))))))))
   refine CT.sub .t1 (CT.skip (EX.q (TL.val (r_asg .c) (TL.q (TL.val (r_asg .c) (TL.e (CT.seq (CT.block (CT.q (TL.m m3 (TL.val (n_lss y 256 (.t m0) .c rfl rfl) (TL.a m0 (TL.sub (.hd .t2) (TL.e (CT.ifd m0 (fun c41 => ?_) (fun c41 => ?_))))))))))))))))
   ·
    exfalso; omega
   refine CT.sub .t1 (CT.q (TL.m m3 (TL.val (n_eql y 256 (.t m0) .c rfl rfl) (TL.a m0 (TL.sub (.hd .t2) (TL.e (CT.ifd m0 (fun c68 => ?_) (fun c68 => ?_))))))))
   ·
    exfalso; omega
   refine CT.sub .t1 (CT.q (TL.m m3 (TL.val (n_lss y 265 (.t m0) .c rfl rfl) (TL.a m0 (TL.sub (.hd .t2) (TL.e (CT.ifd m0 (fun c73 => ?_) (fun c73 => ?_))))))))
   ·
    exfalso; omega
   refine CT.sub .t1 (CT.q (TL.m m3 (TL.val (n_lss y 269 (.t m0) .c rfl rfl) (TL.a m0 (TL.sub (.hd .t2) (TL.e (CT.ifd m0 (fun c78 => ?_) (fun c78 => ?_))))))))
   ·
    exfalso; omega
   refine CT.sub .t1 (CT.q (TL.m m3 (TL.val (n_lss y 273 (.t m0) .c rfl rfl) (TL.a m0 (TL.sub (.hd .t2) (TL.e (CT.ifd m0 (fun c84 => ?_) (fun c84 => ?_))))))))
   ·
    exfalso; omega
   refine CT.sub .t1 (CT.q (TL.m m3 (TL.val (n_lss y 277 (.t m0) .c rfl rfl) (TL.a m0 (TL.sub (.hd .t2) (TL.e (CT.ifd m0 (fun c90 => ?_) (fun c90 => ?_))))))))
   ·
    exfalso; omega
   refine CT.sub .t1 (CT.q (TL.m m3 (TL.val (n_lss y 281 (.t m0) .c rfl rfl) (TL.a m0 (TL.sub (.hd .t2) (TL.e (CT.ifd m0 (fun c96 => ?_) (fun c96 => ?_))))))))
   ·
    exfalso; omega
   refine CT.sub .t1 (CT.q (TL.m m3 (TL.val (n_lss y 285 (.t m0) .c rfl rfl) (TL.a m0 (TL.sub (.hd .t2) (TL.e (CT.ifd m0 (fun c102 => ?_) (fun c102 => ?_))))))))
   ·
    exfalso; omega
   refine CT.sub .t1 (CT.q (TL.m m3 (TL.val (n_lss y 286 (.t m0) .c rfl rfl) (TL.a m0 (TL.sub (.hd .t2) (TL.e (CT.ifd m0 (fun c108 => ?_) (fun c108 => ?_))))))))
   ·
    exfalso; omega
   refine CT.sub .t1 (CT.q (TL.m m4 (TL.m m5 (TL.c m0 (TL.f 2 fo_103_2 m0 (TL.val (r_ld (v := (i64 i1)) Tryz.isAgg2 m0 (.t m0) (by decide) (Dget_roff _)) (TL.val (r_mki Tryz.underlying121 (.t m0)) (TL.c m5 (TL.f 1048 fo_103_14 m0 (TL.s (r_st (F' := D { s with r := .iface 49 (.pointer (some ⟨r, 0, none⟩)), roff := i1, b := b1, nb := n1, hist := .slice (some ⟨hb, 0, none⟩) 32768 32768, wr := x.wr, err := .iface 121 (i64 i1), hl := .pointer (some ⟨f, 5, none⟩), hd := .pointer (some ⟨f, 520, none⟩), cl := x.cl, cd := x.cd }) Tryz.sizeOf82 (Dsat_err (.iface 121 (i64 i1))) a0 (.t m0) (.t m2) (by decide)) (TL.sub .t8 (TL.e (CT.ret (EX.bret (EX.then_ret (EX.then_ret (EX.scope_ret ?_)))))))))))))))))
   exact EX.perm p2 (EX.perm p3 (EX.perm p4 (EX.perm p4 (EX.perm p4 (EX.end_ (.inl rfl) (res0 Tryz.results89) (fun _ hS => hb_err (ea := ea) (R := R) (s' := { s with r := .iface 49 (.pointer (some ⟨r, 0, none⟩)), roff := i1, b := b1, nb := n1, hist := .slice (some ⟨hb, 0, none⟩) 32768 32768, wr := x.wr, err := .iface 121 (i64 i1), hl := .pointer (some ⟨f, 5, none⟩), hd := .pointer (some ⟨f, 520, none⟩), cl := x.cl, cd := x.cd }) (TB := [(Lnks t), (Lnks td)]) rfl rfl htr.nil rfl rfl H.ex hw hrw hwl hx.un hil1 hx.sd he hS))))))
  have hmr := Nat.le_trans hlen (Nat.le_of_eq hlb)
  have hlk1 := hok.2.1; have hlk2 := hok.2.2
  simp only [List.length_append, symB_length, nbits_length] at hlb
  have hkB : x.k + ls.getD c 0 + lenExtra c + ds.getD c2 0 + rest.length ≤ B.length := by omega
  have hc1 := hla.1
  have hc2 := hla.2.1
  have hv := hla.2.2.2.1
  have hnn := hla.2.2.1
  have hle := lenExtra_le c hc2
  have hlm := len_max hla
  have hp6 : 2 ^ lenExtra c ≤ 2 ^ 6 := Nat.pow_le_pow_right (by decide) hle
  clear hlb hlen
  refine CT.region (TL.m m0 (TL.m m1 (TL.c m0 (TL.f 1050 fo_103_16 m0 (TL.val (r_ld (v := (.pointer (some ⟨f, 5, none⟩))) Tryz.isAgg101 m0 (.t m0) (by decide) (Dget_hl _)) (TL.perm p3 (TL.perm p4 (TL.perm p3 (TL.perm p3 (TL.call (r_call ce_112 (.cons (.t m4) (.cons (.t m0) .nil))) (fun w hS => t112 (s := { s with r := .iface 49 (.pointer (some ⟨r, 0, none⟩)), roff := x.i, b := x.b, nb := x.nb, hist := .slice (some ⟨hb, 0, none⟩) 32768 32768, wr := x.wr, err := .nilIface, hl := .pointer (some ⟨f, 5, none⟩), hd := .pointer (some ⟨f, 520, none⟩), cl := x.cl, cd := x.cd }) (k := c) (at_ := x.k) trd_h1 ht hok hbits hheld hnb22 hmr hBl hil rfl rfl hS) ?_))))))))))
  rintro _ w24 ⟨i1, b1, n1, rfl, hk1, hn1, hil1, hS⟩
  replace hS : Sat G w24 (blk f 1054 (D { s with r := .iface 49 (.pointer (some ⟨r, 0, none⟩)), roff := i1, b := b1, nb := n1, hist := .slice (some ⟨hb, 0, none⟩) 32768 32768, wr := x.wr, err := .nilIface, hl := .pointer (some ⟨f, 5, none⟩), hd := .pointer (some ⟨f, 520, none⟩), cl := x.cl, cd := x.cd }) :: Br r B i1 :: Lnks td :: Lnks t :: blk hb 32768 (fun jj => u8 (x.hist jj)) :: R) := hS
  refine TW.at hS ?_
  replace hn1 : n1 + ls.getD c 0 ≤ max x.nb (max t.mn (ls.getD c 0) + 7) := hn1
  rw [hmn] at hn1
  replace hn1 := sym_nb hn1 hnbl hlk1
  have hdr1 := drop_app hbits
  rw [symB_length] at hdr1
  clear hmr
  refine TL.m m0 (TL.val (r_ext (.t m0)) (TL.val (r_ext (.t m1)) (TL.a m1 (TL.a m1 (TL.sub (.hd (.hd .t9)) (TL.e (CT.seq (CT.q (TL.m m0 (TL.val (r_nen Tryz.underlying82 (.t m0)) (TL.sub (.hd .t1) (TL.e (CT.iff_ m0 ?_)))))))))))))
  refine CT.sub .t1 (CT.skip (EX.q (TL.val (r_asg .c) (TL.q (TL.val (r_asg .c) (TL.e (CT.cut (X := Unit) (fun gx => [(5, (i64 (lenBase c))), (4, (u64 (lenExtra c))), (3, .nilIface), (2, (i64 c)), (0, (.pointer (some ⟨f, 0, none⟩)))]) (fun gx => (blk f 1054 (D { s with r := .iface 49 (.pointer (some ⟨r, 0, none⟩)), roff := i1, b := b1, nb := n1, hist := .slice (some ⟨hb, 0, none⟩) 32768 32768, wr := x.wr, err := .nilIface, hl := .pointer (some ⟨f, 5, none⟩), hd := .pointer (some ⟨f, 520, none⟩), cl := x.cl, cd := x.cd })) :: Br r B i1 :: blk hb 32768 (fun jj => u8 (x.hist jj)) :: Lnks t :: Lnks td :: R) (fun gx => True) ?_ ?_)))))))
  ·
   refine CT.block (CT.q (TL.m m3 (TL.val (n_lss c 256 (.t m0) .c rfl rfl) (TL.a m0 (TL.sub (.hd .t2) (TL.e (CT.ifd m0 (fun c41 => ?_) (fun c41 => ?_))))))))
   ·
    exfalso; omega
   refine CT.sub .t1 (CT.q (TL.m m3 (TL.val (n_eql c 256 (.t m0) .c rfl rfl) (TL.a m0 (TL.sub (.hd .t2) (TL.e (CT.ifd m0 (fun c68 => ?_) (fun c68 => ?_))))))))
   ·
    exfalso; omega
   refine CT.sub .t1 (CT.q (TL.m m3 (TL.val (n_lss c 265 (.t m0) .c rfl rfl) (TL.a m0 (TL.sub (.hd .t2) (TL.e (CT.ifd m0 (fun c73 => ?_) (fun c73 => ?_))))))))
   ·
    have hq := (len_go hc1 hc2).1 c73
    exact CT.sub .t1 (CT.q (TL.m m3 (TL.val (n_sub c 254 9223372036854775808 (.t m0) .c rfl rfl (by omega) (by omega)) (TL.rm .h2 (TL.a m0 (TL.sub (.hd .t2) (TL.e (CT.region (TL.rm .h1 (TL.val (r_asg .c) (TL.nil (EX.bnormal (EX.perm p2 (EX.perm p3 (EX.perm p4 (EX.perm p4 (EX.perm p4 (EX.meet () trivial (.refl _) (.eq m1 (congrArg (fun z : Nat => Value.int .i64 (z : Int)) (show ((c - 254) : Nat) = (lenBase c) by omega)) (.eq m0 (congrArg (fun z : Nat => Value.int .u64 (z : Int)) (show (0 : Nat) = (lenExtra c) by omega)) (.sl 2 3 rfl)))))))))))))))))))))
   refine CT.sub .t1 (CT.q (TL.m m3 (TL.val (n_lss c 269 (.t m0) .c rfl rfl) (TL.a m0 (TL.sub (.hd .t2) (TL.e (CT.ifd m0 (fun c78 => ?_) (fun c78 => ?_))))))))
   ·
    have hq := (len_go hc1 hc2).2.1 (by omega) c78
    exact CT.sub .t1 (CT.q (TL.m m3 (TL.val (n_mul c 2 9223372036854775808 (.t m0) .c rfl rfl (by omega)) (TL.val (n_sub ((c * 2)) 519 9223372036854775808 (.t m0) .c rfl rfl (by omega) (by omega)) (TL.rm .h3 (TL.a m0 (TL.sub (.hd .t3) (TL.e (CT.region (TL.rm .h1 (TL.val (r_asg .c) (TL.nil (EX.bnormal (EX.perm p2 (EX.perm p3 (EX.perm p4 (EX.perm p4 (EX.perm p4 (EX.meet () trivial (.refl _) (.eq m1 (congrArg (fun z : Nat => Value.int .i64 (z : Int)) (show (((c * 2) - 519) : Nat) = (lenBase c) by omega)) (.eq m0 (congrArg (fun z : Nat => Value.int .u64 (z : Int)) (show (1 : Nat) = (lenExtra c) by omega)) (.sl 2 3 rfl))))))))))))))))))))))
   refine CT.sub .t1 (CT.q (TL.m m3 (TL.val (n_lss c 273 (.t m0) .c rfl rfl) (TL.a m0 (TL.sub (.hd .t2) (TL.e (CT.ifd m0 (fun c84 => ?_) (fun c84 => ?_))))))))
   ·
    have hq := (len_go hc1 hc2).2.2.1 (by omega) c84
    exact CT.sub .t1 (CT.q (TL.m m3 (TL.val (n_mul c 4 9223372036854775808 (.t m0) .c rfl rfl (by omega)) (TL.val (n_sub ((c * 4)) 1057 9223372036854775808 (.t m0) .c rfl rfl (by omega) (by omega)) (TL.rm .h3 (TL.a m0 (TL.sub (.hd .t3) (TL.e (CT.region (TL.rm .h1 (TL.val (r_asg .c) (TL.nil (EX.bnormal (EX.perm p2 (EX.perm p3 (EX.perm p4 (EX.perm p4 (EX.perm p4 (EX.meet () trivial (.refl _) (.eq m1 (congrArg (fun z : Nat => Value.int .i64 (z : Int)) (show (((c * 4) - 1057) : Nat) = (lenBase c) by omega)) (.eq m0 (congrArg (fun z : Nat => Value.int .u64 (z : Int)) (show (2 : Nat) = (lenExtra c) by omega)) (.sl 2 3 rfl))))))))))))))))))))))
   refine CT.sub .t1 (CT.q (TL.m m3 (TL.val (n_lss c 277 (.t m0) .c rfl rfl) (TL.a m0 (TL.sub (.hd .t2) (TL.e (CT.ifd m0 (fun c90 => ?_) (fun c90 => ?_))))))))
   ·
    have hq := (len_go hc1 hc2).2.2.2.1 (by omega) c90
    exact CT.sub .t1 (CT.q (TL.m m3 (TL.val (n_mul c 8 9223372036854775808 (.t m0) .c rfl rfl (by omega)) (TL.val (n_sub ((c * 8)) 2149 9223372036854775808 (.t m0) .c rfl rfl (by omega) (by omega)) (TL.rm .h3 (TL.a m0 (TL.sub (.hd .t3) (TL.e (CT.region (TL.rm .h1 (TL.val (r_asg .c) (TL.nil (EX.bnormal (EX.perm p2 (EX.perm p3 (EX.perm p4 (EX.perm p4 (EX.perm p4 (EX.meet () trivial (.refl _) (.eq m1 (congrArg (fun z : Nat => Value.int .i64 (z : Int)) (show (((c * 8) - 2149) : Nat) = (lenBase c) by omega)) (.eq m0 (congrArg (fun z : Nat => Value.int .u64 (z : Int)) (show (3 : Nat) = (lenExtra c) by omega)) (.sl 2 3 rfl))))))))))))))))))))))
   refine CT.sub .t1 (CT.q (TL.m m3 (TL.val (n_lss c 281 (.t m0) .c rfl rfl) (TL.a m0 (TL.sub (.hd .t2) (TL.e (CT.ifd m0 (fun c96 => ?_) (fun c96 => ?_))))))))
   ·
    have hq := (len_go hc1 hc2).2.2.2.2.1 (by omega) c96
    exact CT.sub .t1 (CT.q (TL.m m3 (TL.val (n_mul c 16 9223372036854775808 (.t m0) .c rfl rfl (by omega)) (TL.val (n_sub ((c * 16)) 4365 9223372036854775808 (.t m0) .c rfl rfl (by omega) (by omega)) (TL.rm .h3 (TL.a m0 (TL.sub (.hd .t3) (TL.e (CT.region (TL.rm .h1 (TL.val (r_asg .c) (TL.nil (EX.bnormal (EX.perm p2 (EX.perm p3 (EX.perm p4 (EX.perm p4 (EX.perm p4 (EX.meet () trivial (.refl _) (.eq m1 (congrArg (fun z : Nat => Value.int .i64 (z : Int)) (show (((c * 16) - 4365) : Nat) = (lenBase c) by omega)) (.eq m0 (congrArg (fun z : Nat => Value.int .u64 (z : Int)) (show (4 : Nat) = (lenExtra c) by omega)) (.sl 2 3 rfl))))))))))))))))))))))
   refine CT.sub .t1 (CT.q (TL.m m3 (TL.val (n_lss c 285 (.t m0) .c rfl rfl) (TL.a m0 (TL.sub (.hd .t2) (TL.e (CT.ifd m0 (fun c102 => ?_) (fun c102 => ?_))))))))
   ·
    have hq := (len_go hc1 hc2).2.2.2.2.2.1 (by omega) c102
    exact CT.sub .t1 (CT.q (TL.m m3 (TL.val (n_mul c 32 9223372036854775808 (.t m0) .c rfl rfl (by omega)) (TL.val (n_sub ((c * 32)) 8861 9223372036854775808 (.t m0) .c rfl rfl (by omega) (by omega)) (TL.rm .h3 (TL.a m0 (TL.sub (.hd .t3) (TL.e (CT.region (TL.rm .h1 (TL.val (r_asg .c) (TL.nil (EX.bnormal (EX.perm p2 (EX.perm p3 (EX.perm p4 (EX.perm p4 (EX.perm p4 (EX.meet () trivial (.refl _) (.eq m1 (congrArg (fun z : Nat => Value.int .i64 (z : Int)) (show (((c * 32) - 8861) : Nat) = (lenBase c) by omega)) (.eq m0 (congrArg (fun z : Nat => Value.int .u64 (z : Int)) (show (5 : Nat) = (lenExtra c) by omega)) (.sl 2 3 rfl))))))))))))))))))))))
   refine CT.sub .t1 (CT.q (TL.m m3 (TL.val (n_lss c 286 (.t m0) .c rfl rfl) (TL.a m0 (TL.sub (.hd .t2) (TL.e (CT.ifd m0 (fun c108 => ?_) (fun c108 => ?_))))))))
   ·
    have hq := (len_go hc1 hc2).2.2.2.2.2.2 (by omega)
    exact CT.sub .t1 (CT.q (TL.rm .here (TL.val (r_asg .c) (TL.e (CT.region (TL.rm .h1 (TL.val (r_asg .c) (TL.nil (EX.bnormal (EX.perm p2 (EX.perm p3 (EX.perm p4 (EX.perm p4 (EX.perm p4 (EX.meet () trivial (.refl _) (.eq m1 (congrArg (fun z : Nat => Value.int .i64 (z : Int)) (show (258 : Nat) = (lenBase c) by omega)) (.eq m0 (congrArg (fun z : Nat => Value.int .u64 (z : Int)) (show (0 : Nat) = (lenExtra c) by omega)) (.sl 2 3 rfl))))))))))))))))))
   exfalso; omega
  rintro ⟨⟩ -
  refine CT.cut (X := Nat × Nat × Nat) (fun gx => [(5, (i64 (lenBase c + v))), (4, (u64 (lenExtra c))), (2, (i64 c)), (0, (.pointer (some ⟨f, 0, none⟩)))]) (fun gx => (blk f 1054 (D { s with r := .iface 49 (.pointer (some ⟨r, 0, none⟩)), roff := gx.1, b := gx.2.1, nb := gx.2.2, hist := .slice (some ⟨hb, 0, none⟩) 32768 32768, wr := x.wr, err := .nilIface, hl := .pointer (some ⟨f, 5, none⟩), hd := .pointer (some ⟨f, 520, none⟩), cl := x.cl, cd := x.cd })) :: Br r B gx.1 :: blk hb 32768 (fun jj => u8 (x.hist jj)) :: Lnks t :: Lnks td :: R) (fun gx => Held B (x.k + ls.getD c 0 + lenExtra c) gx.1 gx.2.1 gx.2.2 ∧ gx.2.2 ≤ ls.getD 256 0 + 7 ∧ gx.1 ≤ (pack B).length) ?_ ?_
  ·
   refine CT.q (TL.m m1 (TL.val (n_gtr ((lenExtra c)) 0 (.t m0) .c rfl rfl) (TL.sub (.hd .t1) (TL.e (CT.ifd m0 (fun c112 => ?_) (fun c112 => ?_))))))
   ·
    refine CT.sub .t1 (CT.seq (CT.block (CT.loop (X := Nat × Nat × Nat) (fun gx => [(5, (i64 (lenBase c))), (4, (u64 (lenExtra c))), (2, (i64 c)), (0, (.pointer (some ⟨f, 0, none⟩)))]) (fun gx => (blk f 1054 (D { s with r := .iface 49 (.pointer (some ⟨r, 0, none⟩)), roff := gx.1, b := gx.2.1, nb := gx.2.2, hist := .slice (some ⟨hb, 0, none⟩) 32768 32768, wr := x.wr, err := .nilIface, hl := .pointer (some ⟨f, 5, none⟩), hd := .pointer (some ⟨f, 520, none⟩), cl := x.cl, cd := x.cd })) :: Br r B gx.1 :: blk hb 32768 (fun jj => u8 (x.hist jj)) :: Lnks t :: Lnks td :: R) (fun gx => Held B (x.k + ls.getD c 0) gx.1 gx.2.1 gx.2.2 ∧ NB (ls.getD 256 0) (lenExtra c) gx.2.2 ∧ gx.1 ≤ (pack B).length) (fun gx => lenExtra c - gx.2.2) ((i1, b1, n1)) (⟨hk1, .of hn1, hil1⟩) (.refl _) (.cons m0 (.cons m1 (.cons m3 (.cons m4 .nil)))) ?_)))
    rintro ⟨i5, b5, n5⟩ ⟨hheld5, hnb5, hib5⟩
    replace hheld5 : Held B (x.k + ls.getD c 0) i5 b5 n5 := hheld5
    replace hnb5 : NB (ls.getD 256 0) (lenExtra c) n5 := hnb5
    replace hib5 : i5 ≤ (pack B).length := hib5
    have hn5b : n5 ≤ 22 := hnb5.le hE15 (by omega)
    have hb5 : b5 < 4294967296 := Nat.lt_of_lt_of_le hheld5.lt (Nat.pow_le_pow_right (by decide) (show n5 ≤ 32 from Nat.le_trans hn5b (by decide)))
    refine CT.seq (CT.q (TL.m m3 (TL.c m0 (TL.f 4 fo_103_4 m0 (TL.val (r_ld (v := (u64 n5)) Tryz.isAgg90 m0 (.t m0) (by decide) (Dget_nb _)) (TL.m m5 (TL.val (n_lss n5 ((lenExtra c)) (.t m1) (.t m0) rfl rfl) (TL.sub (.hd .t5) (TL.e (CT.ifd m0 (fun c118 => ?_) (fun c118 => ?_)))))))))))
    ·
     have hlt5 : n5 < lenExtra c := by omega
     have hbyte5 := byte_ok hheld5 hlt5 (show x.k + ls.getD c 0 + lenExtra c ≤ B.length by omega)
     refine CT.sub .t1 (CT.skip (EX.seq (CT.block (CT.q (TL.m m3 (TL.perm p1 (TL.perm p1 (TL.call (r_call ce_86 (.cons (.t m0) .nil)) (fun w hS => t86 f r i5 B { s with r := .iface 49 (.pointer (some ⟨r, 0, none⟩)), roff := i5, b := b5, nb := n5, hist := .slice (some ⟨hb, 0, none⟩) 32768 32768, wr := x.wr, err := .nilIface, hl := .pointer (some ⟨f, 5, none⟩), hd := .pointer (some ⟨f, 520, none⟩), cl := x.cl, cd := x.cd } hbyte5.2 (by omega) (by show i5 < 9223372036854775807; omega) (by show b5 < 4294967296; omega) (by show n5 ≤ 24; omega) hS) ?_))))))))
     rintro z120 w120 ⟨hz120, hS⟩
     replace hz120 : z120 = .nilIface := hz120
     subst hz120
     replace hS : Sat G w120 (blk f 1054 (D { s with r := .iface 49 (.pointer (some ⟨r, 0, none⟩)), roff := i5 + 1, b := b5 ||| byteAt B i5 * 2 ^ n5, nb := n5 + 8, hist := .slice (some ⟨hb, 0, none⟩) 32768 32768, wr := x.wr, err := .nilIface, hl := .pointer (some ⟨f, 5, none⟩), hd := .pointer (some ⟨f, 520, none⟩), cl := x.cl, cd := x.cd }) :: Br r B (i5 + 1) :: blk hb 32768 (fun jj => u8 (x.hist jj)) :: Lnks t :: Lnks td :: R) := hS
     refine TW.at hS ?_
     refine TL.a m0 (TL.sub (.hd .t2) (TL.q (TL.m m0 (TL.val (r_nen Tryz.underlying82 (.t m0)) (TL.sub (.hd .t1) (TL.e (CT.iff_ m0 ?_)))))))
     exact CT.sub .t1 (CT.skip (EX.bnormal (EX.again ((i5 + 1, b5 ||| byteAt B i5 * 2 ^ n5, n5 + 8)) (⟨hheld5.more hbyte5.1, hnb5.more hlt5, hbyte5.2⟩) (by show lenExtra c - (n5 + 8) < lenExtra c - n5; omega) (.refl _) (.sl 1 4 rfl))))
    have hge5 : lenExtra c ≤ n5 := by omega
    refine CT.sub .t1 (CT.exit (EX.then_exit (EX.then_exit (EX.out (EX.q (TL.m m0 (TL.m m4 (TL.c m0 (TL.f 3 fo_103_3 m0 (TL.val (r_ld (v := (u32 b5)) Tryz.isAgg89 m0 (.t m0) (by decide) (Dget_b _)) (TL.m m6 (TL.val (n_shl 1 ((lenExtra c)) 4294967296 .c (.t m0) rfl rfl (show _ ≤ 32 by omega) (by omega)) (TL.val (n_sub ((1 * 2 ^ (lenExtra c))) 1 4294967296 (.t m0) .c rfl rfl (by omega) (by omega)) (TL.val (n_and b5 (1 * 2 ^ lenExtra c - 1) 4294967296 (.t m3) (.t m0) rfl rfl (by omega) (by omega)) (TL.sub (.eq m0 (congrArg (fun z : Nat => Value.int .u32 (z : Int)) (hheld5.and (by omega) hv hdr1)) (.cons m1 (.cons m2 (.cons m3 (.cons m4 (.cons m5 (.cons m6 (.cons m7 (.cons m8 (.cons m9 (.cons m10 (.cons m11 (.cons m12 .nil))))))))))))) (TL.val (n_conv v 9223372036854775808 ⟨_, Tryz.underlying89⟩ Tryz.underlying3 (.t m0) rfl (by omega)) (TL.val (n_add ((lenBase c)) v 9223372036854775808 (.t m9) (.t m0) rfl rfl (by omega)) (TL.rm .h11 (TL.a m0 (TL.sub (.hd .t11) (TL.q (TL.m m3 (TL.c m0 (TL.f 3 fo_103_3 m0 (TL.val (r_ld (v := (u32 b5)) Tryz.isAgg89 m0 (.t m0) (by decide) (Dget_b _)) (TL.m m5 (TL.val (n_shr b5 ((lenExtra c)) (.t m1) (.t m0) rfl rfl (show _ ≤ 32 by omega)) (TL.c m5 (TL.f 3 fo_103_3 m0 (TL.s (r_st (F' := D { s with r := .iface 49 (.pointer (some ⟨r, 0, none⟩)), roff := i5, b := b5 / 2 ^ (lenExtra c), nb := n5, hist := .slice (some ⟨hb, 0, none⟩) 32768 32768, wr := x.wr, err := .nilIface, hl := .pointer (some ⟨f, 5, none⟩), hd := .pointer (some ⟨f, 520, none⟩), cl := x.cl, cd := x.cd }) Tryz.sizeOf89 (Dsat_b ((b5 / 2 ^ (lenExtra c)))) a0 (.t m0) (.t m2) (by decide)) (TL.sub .t8 (TL.e (CT.region ?_)))))))))))))))))))))))))))))))))
    exact TL.m m3 (TL.c m0 (TL.f 4 fo_103_4 m0 (TL.val (r_ld (v := (u64 n5)) Tryz.isAgg90 m0 (.t m0) (by decide) (Dget_nb _)) (TL.m m5 (TL.val (n_sub n5 ((lenExtra c)) 18446744073709551616 (.t m1) (.t m0) rfl rfl (by omega) (by omega)) (TL.c m5 (TL.f 4 fo_103_4 m0 (TL.s (r_st (F' := D { s with r := .iface 49 (.pointer (some ⟨r, 0, none⟩)), roff := i5, b := b5 / 2 ^ (lenExtra c), nb := n5 - (lenExtra c), hist := .slice (some ⟨hb, 0, none⟩) 32768 32768, wr := x.wr, err := .nilIface, hl := .pointer (some ⟨f, 5, none⟩), hd := .pointer (some ⟨f, 520, none⟩), cl := x.cl, cd := x.cd }) Tryz.sizeOf90 (Dsat_nb ((n5 - (lenExtra c)))) a0 (.t m0) (.t m2) (by decide)) (TL.sub .t8 (TL.nil (EX.fold (A' := (blk f 1054 (D { s with r := .iface 49 (.pointer (some ⟨r, 0, none⟩)), roff := i5, b := b5 / 2 ^ lenExtra c, nb := n5 - lenExtra c, hist := .slice (some ⟨hb, 0, none⟩) 32768 32768, wr := x.wr, err := .nilIface, hl := .pointer (some ⟨f, 5, none⟩), hd := .pointer (some ⟨f, 520, none⟩), cl := x.cl, cd := x.cd }))) a0 (D_eq rfl) (EX.meet ((i5, b5 / 2 ^ lenExtra c, n5 - lenExtra c)) (⟨hheld5.take hge5, hnb5.take, hib5⟩) (.refl _) (.eq m0 (congrArg (fun z : Nat => Value.int .i64 (z : Int)) (show (((lenBase c) + v) : Nat) = (lenBase c + v) by omega)) (.sl 1 3 rfl))))))))))))))
   have hE0 : lenExtra c = 0 := by omega
   have hv0 : v = 0 := by rw [hE0] at hv; omega
   exact CT.sub .t1 (CT.skip (EX.meet ((i1, b1, n1)) (⟨by show Held B (x.k + ls.getD c 0 + lenExtra c) i1 b1 n1; rw [hE0]; exact hk1, hn1, hil1⟩) (.refl _) (.eq m0 (congrArg (fun z : Nat => Value.int .i64 (z : Int)) (show ((lenBase c) : Nat) = (lenBase c + v) by omega)) (.cons m1 (.cons m3 (.cons m4 .nil))))))
  rintro ⟨i2, b2, n2⟩ ⟨hheld2, hnb2, hib2⟩
  replace hheld2 : Held B (x.k + ls.getD c 0 + lenExtra c) i2 b2 n2 := hheld2
  replace hnb2 : n2 ≤ ls.getD 256 0 + 7 := hnb2
  replace hib2 : i2 ≤ (pack B).length := hib2
  have hn2b : n2 ≤ 22 := by omega
  have hb2 : b2 < 4294967296 := Nat.lt_of_lt_of_le hheld2.lt (Nat.pow_le_pow_right (by decide) (show n2 ≤ 32 from Nat.le_trans hn2b (by decide)))
  have hdr2 := drop_app hdr1
  rw [nbits_length] at hdr2
  refine CT.q (TL.val (r_asg .c) (TL.e (CT.cut (X := Nat × Nat × Nat) (fun gx => [(6, (i64 c2)), (5, (i64 (lenBase c + v))), (4, (u64 (lenExtra c))), (2, (i64 c)), (0, (.pointer (some ⟨f, 0, none⟩)))]) (fun gx => (blk f 1054 (D { s with r := .iface 49 (.pointer (some ⟨r, 0, none⟩)), roff := gx.1, b := gx.2.1, nb := gx.2.2, hist := .slice (some ⟨hb, 0, none⟩) 32768 32768, wr := x.wr, err := .nilIface, hl := .pointer (some ⟨f, 5, none⟩), hd := .pointer (some ⟨f, 520, none⟩), cl := x.cl, cd := x.cd })) :: Br r B gx.1 :: blk hb 32768 (fun jj => u8 (x.hist jj)) :: Lnks t :: Lnks td :: R) (fun gx => Held B (x.k + ls.getD c 0 + lenExtra c + ds.getD c2 0) gx.1 gx.2.1 gx.2.2 ∧ gx.2.2 ≤ ls.getD 256 0 + 7 ∧ gx.1 ≤ (pack B).length) ?_ ?_)))
  ·
   refine CT.q (TL.m m4 (TL.c m0 (TL.f 1051 fo_103_17 m0 (TL.val (r_ld (v := (.pointer (some ⟨f, 520, none⟩))) Tryz.isAgg101 m0 (.t m0) (by decide) (Dget_hd _)) (TL.val (r_eqps Tryz.underlying101 (.t m0)) (TL.sub (.hd .t4) (TL.e (CT.iff_ m0 ?_))))))))
   refine CT.sub .t1 (CT.seq ?_)
   obtain ⟨htd1, htd2⟩ : TDok ds td (fun j => s.H (515 + j)) ∧ ∀ k, LOk ds k → td.mn ≤ ds.getD k 0 := htd.resolve_right (fun h0 => by have := hok2.2.1; have h1 := h0 _ (List.mem_of_getElem? (lens_get hok2)); omega)
   have hbits3 := hdr2
   have hk31 := hok2.2.1; have hk32 := hok2.2.2
   refine CT.region (TL.m m4 (TL.m m5 (TL.c m0 (TL.f 1051 fo_103_17 m0 (TL.val (r_ld (v := (.pointer (some ⟨f, 520, none⟩))) Tryz.isAgg101 m0 (.t m0) (by decide) (Dget_hd _)) (TL.perm p4 (TL.perm p4 (TL.perm p3 (TL.perm p3 (TL.call (r_call ce_112 (.cons (.t m4) (.cons (.t m0) .nil))) (fun w hS => t112 (s := { s with r := .iface 49 (.pointer (some ⟨r, 0, none⟩)), roff := i2, b := b2, nb := n2, hist := .slice (some ⟨hb, 0, none⟩) 32768 32768, wr := x.wr, err := .nilIface, hl := .pointer (some ⟨f, 5, none⟩), hd := .pointer (some ⟨f, 520, none⟩), cl := x.cl, cd := x.cd }) (k := c2) (at_ := (x.k + ls.getD c 0 + lenExtra c)) trd_h2 htd1 hok2 hbits3 hheld2 (by show n2 ≤ 22; omega) (by have := htd2 c2 hok2; omega) hBl hib2 rfl rfl hS) ?_))))))))))
   rintro _ w201 ⟨i3, b3, n3, rfl, hk3, hn3, hib3, hS⟩
   replace hS : Sat G w201 (blk f 1054 (D { s with r := .iface 49 (.pointer (some ⟨r, 0, none⟩)), roff := i3, b := b3, nb := n3, hist := .slice (some ⟨hb, 0, none⟩) 32768 32768, wr := x.wr, err := .nilIface, hl := .pointer (some ⟨f, 5, none⟩), hd := .pointer (some ⟨f, 520, none⟩), cl := x.cl, cd := x.cd }) :: Br r B i3 :: Lnks t :: Lnks td :: blk hb 32768 (fun jj => u8 (x.hist jj)) :: R) := hS
   refine TW.at hS ?_
   have htd3 := htd2 c2 hok2
   replace hn3 : n3 + ds.getD c2 0 ≤ max n2 (max td.mn (ds.getD c2 0) + 7) := hn3
   replace hn3 := sym_nbd hn3 hnb2 htd3 hok2.2.1
   refine TL.m m0 (TL.val (r_ext (.t m0)) (TL.val (r_ext (.t m1)) (TL.rm .h9 (TL.a m1 (TL.a m1 (TL.sub (.hd (.hd .t9)) (TL.q (TL.m m0 (TL.val (r_nen Tryz.underlying82 (.t m0)) (TL.sub (.hd .t1) (TL.e (CT.iff_ m0 ?_))))))))))))
   exact CT.sub .t1 (CT.skip (EX.perm p3 (EX.perm p3 (EX.perm p4 (EX.perm p4 (EX.perm p4 (EX.meet ((i3, b3, n3)) (⟨hk3, hn3, hib3⟩) (.refl _) (.sl 1 5 rfl))))))))
  rintro ⟨i3, b3, n3⟩ ⟨hheld3, hnb3, hib3⟩
  replace hheld3 : Held B (x.k + ls.getD c 0 + lenExtra c + ds.getD c2 0) i3 b3 n3 := hheld3
  replace hnb3 : n3 ≤ ls.getD 256 0 + 7 := hnb3
  replace hib3 : i3 ≤ (pack B).length := hib3
  have hn3b : n3 ≤ 22 := by omega
  have hb3 : b3 < 4294967296 := Nat.lt_of_lt_of_le hheld3.lt (Nat.pow_le_pow_right (by decide) (show n3 ≤ 32 from Nat.le_trans hn3b (by decide)))
  have hdr3 := drop_app hdr2
  rw [symB_length] at hdr3
  rcases hda with ⟨d, v2, rest2, hda, rfl, hfar⟩ | ⟨h30, he⟩
  ·
   have hdm := dist_max hda
   have hd1 := hda.2.1
   have hd2 := hda.2.2
   have hd3 := hda.1
   rw [List.length_append, nbits_length] at hkB
   have hdx := distExtra_le c2 hda.1
   have hp13 : 2 ^ distExtra c2 ≤ 2 ^ 13 := Nat.pow_le_pow_right (by decide) hdx
   refine CT.cut (X := Nat × Nat × Nat) (fun gx => [(6, (i64 d)), (5, (i64 (lenBase c + v))), (4, (u64 (lenExtra c))), (2, (i64 c)), (0, (.pointer (some ⟨f, 0, none⟩)))]) (fun gx => (blk f 1054 (D { s with r := .iface 49 (.pointer (some ⟨r, 0, none⟩)), roff := gx.1, b := gx.2.1, nb := gx.2.2, hist := .slice (some ⟨hb, 0, none⟩) 32768 32768, wr := x.wr, err := .nilIface, hl := .pointer (some ⟨f, 5, none⟩), hd := .pointer (some ⟨f, 520, none⟩), cl := x.cl, cd := x.cd })) :: Br r B gx.1 :: blk hb 32768 (fun jj => u8 (x.hist jj)) :: Lnks t :: Lnks td :: R) (fun gx => Held B (x.k + ls.getD c 0 + lenExtra c + ds.getD c2 0 + distExtra c2) gx.1 gx.2.1 gx.2.2 ∧ gx.2.2 ≤ ls.getD 256 0 + 7 ∧ gx.1 ≤ (pack B).length) ?_ ?_
   ·
    refine CT.block (CT.q (TL.m m0 (TL.val (n_lss c2 4 (.t m0) .c rfl rfl) (TL.a m0 (TL.sub (.hd .t2) (TL.e (CT.ifd m0 (fun c218 => ?_) (fun c218 => ?_))))))))
    ·
     have hq := (dist_go hda.1).1 c218
     have hv20 : v2 = 0 := by rw [hq.2] at hd2; omega
     exact CT.sub .t1 (CT.region (TL.m m0 (TL.val (n_add c2 1 9223372036854775808 (.t m0) .c rfl rfl (by omega)) (TL.rm .h2 (TL.a m0 (TL.sub (.hd .t2) (TL.nil (EX.bnormal (EX.meet ((i3, b3, n3)) (⟨by show Held B (x.k + ls.getD c 0 + lenExtra c + ds.getD c2 0 + distExtra c2) i3 b3 n3; rw [hq.2]; exact hheld3, hnb3, hib3⟩) (.refl _) (.eq m0 (congrArg (fun z : Nat => Value.int .i64 (z : Int)) (show ((c2 + 1) : Nat) = d by omega)) (.sl 1 4 rfl)))))))))))
    refine CT.sub .t1 (CT.q (TL.m m0 (TL.val (n_lss c2 30 (.t m0) .c rfl rfl) (TL.a m0 (TL.sub (.hd .t2) (TL.e (CT.ifd m0 (fun c223 => ?_) (fun c223 => ?_))))))))
    ·
     have hq := (dist_go hda.1).2 (by omega)
     have hq1 := hq.1; have hq2 := hq.2.1
     rw [← hq1] at hq2
     have hc1b : (c2 &&& 1) ≤ 1 := Nat.and_le_right
     have hcm : (c2 &&& 1) * 2 ^ distExtra c2 ≤ 1 * 2 ^ 13 := Nat.mul_le_mul hc1b hp13
     have hp14 : 2 ^ (distExtra c2 + 1) ≤ 2 ^ 14 := Nat.pow_le_pow_right (by decide) (by omega)
     have hp1d := Nat.two_pow_pos (distExtra c2)
     refine CT.sub .t1 (CT.q (TL.m m0 (TL.val (n_sub c2 2 9223372036854775808 (.t m0) .c rfl rfl (by omega) (by omega)) (TL.val (n_conv ((c2 - 2)) 18446744073709551616 ⟨_, Tryz.underlying3⟩ Tryz.underlying90 (.t m0) rfl (by omega)) (TL.val (n_shr ((c2 - 2)) 1 (.t m0) .c rfl rfl (by decide)) (TL.a m0 (TL.sub (.hd .t4) (TL.sub (.eq m0 (congrArg (fun z : Nat => Value.int .u64 (z : Int)) (show (c2 - 2) / 2 ^ 1 = distExtra c2 by rw [hq1])) (.cons m1 (.cons m2 (.cons m3 (.cons m4 (.cons m5 .nil)))))) (TL.q (TL.m m1 (TL.val (n_and c2 1 9223372036854775808 (.t m0) .c rfl rfl (by omega) (by omega)) (TL.m m2 (TL.val (n_shl ((c2 &&& 1)) ((distExtra c2)) 9223372036854775808 (.t m1) (.t m0) rfl rfl (show _ ≤ 64 by omega) (by omega)) (TL.a m0 (TL.sub (.hd .t4) (TL.e (CT.seq (CT.block (CT.loop (X := Nat × Nat × Nat) (fun gx => [(8, (i64 ((c2 &&& 1) * 2 ^ (distExtra c2)))), (7, (u64 (distExtra c2))), (6, (i64 c2)), (5, (i64 (lenBase c + v))), (4, (u64 (lenExtra c))), (2, (i64 c)), (0, (.pointer (some ⟨f, 0, none⟩)))]) (fun gx => (blk f 1054 (D { s with r := .iface 49 (.pointer (some ⟨r, 0, none⟩)), roff := gx.1, b := gx.2.1, nb := gx.2.2, hist := .slice (some ⟨hb, 0, none⟩) 32768 32768, wr := x.wr, err := .nilIface, hl := .pointer (some ⟨f, 5, none⟩), hd := .pointer (some ⟨f, 520, none⟩), cl := x.cl, cd := x.cd })) :: Br r B gx.1 :: blk hb 32768 (fun jj => u8 (x.hist jj)) :: Lnks t :: Lnks td :: R) (fun gx => Held B (x.k + ls.getD c 0 + lenExtra c + ds.getD c2 0) gx.1 gx.2.1 gx.2.2 ∧ NB (ls.getD 256 0) (distExtra c2) gx.2.2 ∧ gx.1 ≤ (pack B).length) (fun gx => distExtra c2 - gx.2.2) ((i3, b3, n3)) (⟨hheld3, .of hnb3, hib3⟩) (.refl _) (.sl 0 7 rfl) ?_)))))))))))))))))))
     rintro ⟨i7, b7, n7⟩ ⟨hheld7, hnb7, hib7⟩
     replace hheld7 : Held B (x.k + ls.getD c 0 + lenExtra c + ds.getD c2 0) i7 b7 n7 := hheld7
     replace hnb7 : NB (ls.getD 256 0) (distExtra c2) n7 := hnb7
     replace hib7 : i7 ≤ (pack B).length := hib7
     have hn7b : n7 ≤ 22 := hnb7.le hE15 (by omega)
     have hb7 : b7 < 4294967296 := Nat.lt_of_lt_of_le hheld7.lt (Nat.pow_le_pow_right (by decide) (show n7 ≤ 32 from Nat.le_trans hn7b (by decide)))
     refine CT.seq (CT.q (TL.m m6 (TL.c m0 (TL.f 4 fo_103_4 m0 (TL.val (r_ld (v := (u64 n7)) Tryz.isAgg90 m0 (.t m0) (by decide) (Dget_nb _)) (TL.m m5 (TL.val (n_lss n7 ((distExtra c2)) (.t m1) (.t m0) rfl rfl) (TL.sub (.hd .t5) (TL.e (CT.ifd m0 (fun c239 => ?_) (fun c239 => ?_)))))))))))
     ·
      have hlt7 : n7 < distExtra c2 := by omega
      have hbyte7 := byte_ok hheld7 hlt7 (show x.k + ls.getD c 0 + lenExtra c + ds.getD c2 0 + distExtra c2 ≤ B.length by omega)
      refine CT.sub .t1 (CT.skip (EX.seq (CT.block (CT.q (TL.m m6 (TL.perm p1 (TL.perm p1 (TL.call (r_call ce_86 (.cons (.t m0) .nil)) (fun w hS => t86 f r i7 B { s with r := .iface 49 (.pointer (some ⟨r, 0, none⟩)), roff := i7, b := b7, nb := n7, hist := .slice (some ⟨hb, 0, none⟩) 32768 32768, wr := x.wr, err := .nilIface, hl := .pointer (some ⟨f, 5, none⟩), hd := .pointer (some ⟨f, 520, none⟩), cl := x.cl, cd := x.cd } hbyte7.2 (by omega) (by show i7 < 9223372036854775807; omega) (by show b7 < 4294967296; omega) (by show n7 ≤ 24; omega) hS) ?_))))))))
      rintro z241 w241 ⟨hz241, hS⟩
      replace hz241 : z241 = .nilIface := hz241
      subst hz241
      replace hS : Sat G w241 (blk f 1054 (D { s with r := .iface 49 (.pointer (some ⟨r, 0, none⟩)), roff := i7 + 1, b := b7 ||| byteAt B i7 * 2 ^ n7, nb := n7 + 8, hist := .slice (some ⟨hb, 0, none⟩) 32768 32768, wr := x.wr, err := .nilIface, hl := .pointer (some ⟨f, 5, none⟩), hd := .pointer (some ⟨f, 520, none⟩), cl := x.cl, cd := x.cd }) :: Br r B (i7 + 1) :: blk hb 32768 (fun jj => u8 (x.hist jj)) :: Lnks t :: Lnks td :: R) := hS
      refine TW.at hS ?_
      refine TL.a m0 (TL.sub (.hd .t2) (TL.q (TL.m m0 (TL.val (r_nen Tryz.underlying82 (.t m0)) (TL.sub (.hd .t1) (TL.e (CT.iff_ m0 ?_)))))))
      exact CT.sub .t1 (CT.skip (EX.bnormal (EX.again ((i7 + 1, b7 ||| byteAt B i7 * 2 ^ n7, n7 + 8)) (⟨hheld7.more hbyte7.1, hnb7.more hlt7, hbyte7.2⟩) (by show distExtra c2 - (n7 + 8) < distExtra c2 - n7; omega) (.refl _) (.sl 1 7 rfl))))
     refine CT.sub .t1 (CT.exit (EX.then_exit (EX.then_exit (EX.out (EX.q (TL.m m0 (TL.m m7 (TL.c m0 (TL.f 3 fo_103_3 m0 (TL.val (r_ld (v := (u32 b7)) Tryz.isAgg89 m0 (.t m0) (by decide) (Dget_b _)) (TL.m m6 (TL.val (n_shl 1 ((distExtra c2)) 4294967296 .c (.t m0) rfl rfl (show _ ≤ 32 by omega) (by omega)) (TL.val (n_sub ((1 * 2 ^ (distExtra c2))) 1 4294967296 (.t m0) .c rfl rfl (by omega) (by omega)) (TL.val (n_and b7 (1 * 2 ^ distExtra c2 - 1) 4294967296 (.t m3) (.t m0) rfl rfl (by omega) (by omega)) (TL.sub (.eq m0 (congrArg (fun z : Nat => Value.int .u32 (z : Int)) (hheld7.and (by omega) hd2 hdr3)) (.cons m1 (.cons m2 (.cons m3 (.cons m4 (.cons m5 (.cons m6 (.cons m7 (.cons m8 (.cons m9 (.cons m10 (.cons m11 (.cons m12 (.cons m13 (.cons m14 (.cons m15 .nil)))))))))))))))) (TL.val (n_conv v2 9223372036854775808 ⟨_, Tryz.underlying89⟩ Tryz.underlying3 (.t m0) rfl (by omega)) (TL.val (n_or ((c2 &&& 1) * 2 ^ distExtra c2) v2 9223372036854775808 (.t m9) (.t m0) rfl rfl (by omega) (by omega)) (TL.sub (.eq m0 (congrArg (fun z : Nat => Value.int .i64 (z : Int)) (by rw [Nat.or_comm, or_add hd2])) (.cons m1 (.cons m2 (.cons m3 (.cons m4 (.cons m5 (.cons m6 (.cons m7 (.cons m8 (.cons m9 (.cons m10 (.cons m11 (.cons m12 (.cons m13 (.cons m14 (.cons m15 (.cons m16 (.cons m17 .nil)))))))))))))))))) (TL.rm .h11 (TL.a m0 (TL.sub (.hd .t11) (TL.q (TL.m m6 (TL.c m0 (TL.f 3 fo_103_3 m0 (TL.val (r_ld (v := (u32 b7)) Tryz.isAgg89 m0 (.t m0) (by decide) (Dget_b _)) (TL.m m5 (TL.val (n_shr b7 ((distExtra c2)) (.t m1) (.t m0) rfl rfl (show _ ≤ 32 by omega)) (TL.c m5 (TL.f 3 fo_103_3 m0 (TL.s (r_st (F' := D { s with r := .iface 49 (.pointer (some ⟨r, 0, none⟩)), roff := i7, b := b7 / 2 ^ (distExtra c2), nb := n7, hist := .slice (some ⟨hb, 0, none⟩) 32768 32768, wr := x.wr, err := .nilIface, hl := .pointer (some ⟨f, 5, none⟩), hd := .pointer (some ⟨f, 520, none⟩), cl := x.cl, cd := x.cd }) Tryz.sizeOf89 (Dsat_b ((b7 / 2 ^ (distExtra c2)))) a0 (.t m0) (.t m2) (by decide)) (TL.sub .t8 (TL.e ?_)))))))))))))))))))))))))))))))))
     exact CT.q (TL.m m6 (TL.c m0 (TL.f 4 fo_103_4 m0 (TL.val (r_ld (v := (u64 n7)) Tryz.isAgg90 m0 (.t m0) (by decide) (Dget_nb _)) (TL.m m5 (TL.val (n_sub n7 ((distExtra c2)) 18446744073709551616 (.t m1) (.t m0) rfl rfl (by omega) (by omega)) (TL.c m5 (TL.f 4 fo_103_4 m0 (TL.s (r_st (F' := D { s with r := .iface 49 (.pointer (some ⟨r, 0, none⟩)), roff := i7, b := b7 / 2 ^ (distExtra c2), nb := n7 - (distExtra c2), hist := .slice (some ⟨hb, 0, none⟩) 32768 32768, wr := x.wr, err := .nilIface, hl := .pointer (some ⟨f, 5, none⟩), hd := .pointer (some ⟨f, 520, none⟩), cl := x.cl, cd := x.cd }) Tryz.sizeOf90 (Dsat_nb ((n7 - (distExtra c2)))) a0 (.t m0) (.t m2) (by decide)) (TL.sub .t8 (TL.e (CT.region (TL.m m1 (TL.val (n_add ((distExtra c2)) 1 18446744073709551616 (.t m0) .c rfl rfl (by omega)) (TL.val (n_shl 1 (((distExtra c2) + 1)) 9223372036854775808 .c (.t m0) rfl rfl (show _ ≤ 64 by omega) (by omega)) (TL.val (n_add ((1 * 2 ^ ((distExtra c2) + 1))) 1 9223372036854775808 (.t m0) .c rfl rfl (by omega)) (TL.m m4 (TL.val (n_add (((1 * 2 ^ ((distExtra c2) + 1)) + 1)) ((v2 + (c2 &&& 1) * 2 ^ distExtra c2)) 9223372036854775808 (.t m1) (.t m0) rfl rfl (by omega)) (TL.rm .h8 (TL.a m0 (TL.sub (.hd .t6) (TL.nil (EX.bnormal (EX.fold (A' := (blk f 1054 (D { s with r := .iface 49 (.pointer (some ⟨r, 0, none⟩)), roff := i7, b := b7 / 2 ^ distExtra c2, nb := n7 - distExtra c2, hist := .slice (some ⟨hb, 0, none⟩) 32768 32768, wr := x.wr, err := .nilIface, hl := .pointer (some ⟨f, 5, none⟩), hd := .pointer (some ⟨f, 520, none⟩), cl := x.cl, cd := x.cd }))) a0 (D_eq rfl) (EX.meet ((i7, b7 / 2 ^ distExtra c2, n7 - distExtra c2)) (⟨hheld7.take (by omega), hnb7.take, hib7⟩) (.refl _) (.eq m0 (congrArg (fun z : Nat => Value.int .i64 (z : Int)) (show ((((1 * 2 ^ ((distExtra c2) + 1)) + 1) + (v2 + (c2 &&& 1) * 2 ^ distExtra c2)) : Nat) = d by omega)) (.sl 3 4 rfl)))))))))))))))))))))))))))
    exfalso; omega
   rintro ⟨i4, b4, n4⟩ ⟨hheld4, hnb4, hib4⟩
   replace hheld4 : Held B (x.k + ls.getD c 0 + lenExtra c + ds.getD c2 0 + distExtra c2) i4 b4 n4 := hheld4
   replace hnb4 : n4 ≤ ls.getD 256 0 + 7 := hnb4
   replace hib4 : i4 ≤ (pack B).length := hib4
   have hn4b : n4 ≤ 22 := by omega
   have hb4 : b4 < 4294967296 := Nat.lt_of_lt_of_le hheld4.lt (Nat.pow_le_pow_right (by decide) (show n4 ≤ 32 from Nat.le_trans hn4b (by decide)))
   have hdr4 := drop_app hdr3
   rw [nbits_length] at hdr4
   refine CT.seq (CT.seq ?_)
   rcases hfar with ⟨h3n, hn258, hd1l, hdle, hd32, htl⟩ | ⟨he, hfar⟩
   ·
    refine CT.region (TL.m m0 (TL.m m5 (TL.c m0 (TL.f 1037 fo_103_9 m0 (TL.call (r_call ce_116 (.cons (.t m0) .nil)) (fun w hS => t116 f hb { s with r := .iface 49 (.pointer (some ⟨r, 0, none⟩)), roff := i4, b := b4, nb := n4, hist := .slice (some ⟨hb, 0, none⟩) 32768 32768, wr := x.wr, err := .nilIface, hl := .pointer (some ⟨f, 5, none⟩), hd := .pointer (some ⟨f, 520, none⟩), cl := x.cl, cd := x.cd } hS) ?_)))))
    rintro z285 w285 ⟨hz285, hS⟩
    replace hz285 : z285 = (i64 (if s.full = true then 32768 else x.wr)) := hz285
    subst hz285
    replace hS : Sat G w285 (blk f 1054 (D { s with r := .iface 49 (.pointer (some ⟨r, 0, none⟩)), roff := i4, b := b4, nb := n4, hist := .slice (some ⟨hb, 0, none⟩) 32768 32768, wr := x.wr, err := .nilIface, hl := .pointer (some ⟨f, 5, none⟩), hd := .pointer (some ⟨f, 520, none⟩), cl := x.cl, cd := x.cd }) :: Br r B i4 :: blk hb 32768 (fun jj => u8 (x.hist jj)) :: Lnks t :: Lnks td :: R) := hS
    refine TW.at hS ?_
    refine TL.val (n_gtr d ((if s.full = true then 32768 else x.wr)) (.t m4) (.t m0) rfl rfl) (TL.sub (.hd .t5) (TL.e (CT.ifd m0 (fun c286 => ?_) (fun c286 => ?_))))
    ·
     exact absurd c286 (far_ok hw hdle hd32)
    exact CT.sub .t1 (CT.skip (EX.q (TL.m m4 (TL.m m5 (TL.m m3 (TL.m m3 (TL.c m3 (TL.f 1052 fo_103_18 m0 (TL.s (r_st (F' := D { s with r := .iface 49 (.pointer (some ⟨r, 0, none⟩)), roff := i4, b := b4, nb := n4, hist := .slice (some ⟨hb, 0, none⟩) 32768 32768, wr := x.wr, err := .nilIface, hl := .pointer (some ⟨f, 5, none⟩), hd := .pointer (some ⟨f, 520, none⟩), cl := lenBase c + v, cd := x.cd }) Tryz.sizeOf3 (Dsat_cl ((lenBase c + v))) a0 (.t m0) (.t m3) (by decide)) (TL.c m4 (TL.f 1053 fo_103_19 m0 (TL.s (r_st (F' := D { s with r := .iface 49 (.pointer (some ⟨r, 0, none⟩)), roff := i4, b := b4, nb := n4, hist := .slice (some ⟨hb, 0, none⟩) 32768 32768, wr := x.wr, err := .nilIface, hl := .pointer (some ⟨f, 5, none⟩), hd := .pointer (some ⟨f, 520, none⟩), cl := lenBase c + v, cd := d }) Tryz.sizeOf3 (Dsat_cd d) a0 (.t m0) (.t m4) (by decide)) (TL.sub .t8 (TL.e (CT.goto (EX.then_goto (EX.fold (A' := (blk f 1054 (D { s with r := .iface 49 (.pointer (some ⟨r, 0, none⟩)), roff := i4, b := b4, nb := n4, hist := .slice (some ⟨hb, 0, none⟩) 32768 32768, wr := x.wr, err := .nilIface, hl := .pointer (some ⟨f, 5, none⟩), hd := .pointer (some ⟨f, 520, none⟩), cl := n, cd := d }))) a0 (D_eq (by rw [← hnn])) (EX.jump1 (⟨i4, b4, n4, x.wr, (x.k + ls.getD c 0 + lenExtra c + ds.getD c2 0 + distExtra c2), n, d, x.hist, x.h⟩) (⟨⟨hw, hrw, hwl, hheld4, hnb4, hx.un, hib4, hx.s01⟩, by show HTail ls ds s.final (x.k + ls.getD c 0 + lenExtra c + ds.getD c2 0 + distExtra c2) (B.drop (x.k + ls.getD c 0 + lenExtra c + ds.getD c2 0 + distExtra c2)) (copyM x.h d n) hF; rw [hdr4]; exact htl, hn258, hd1l, hdle, hd32, by show 1000 * (B.length - (x.k + ls.getD c 0 + lenExtra c + ds.getD c2 0 + distExtra c2)) + 2 + n ≤ mu0; omega⟩) (by show 2 * (B.length - (x.k + ls.getD c 0 + lenExtra c + ds.getD c2 0 + distExtra c2)) + 1 < 2 * (B.length - x.k); omega) (.refl _) (.cons m4 .nil)))))))))))))))))))
   refine CT.region (TL.m m0 (TL.m m5 (TL.c m0 (TL.f 1037 fo_103_9 m0 (TL.call (r_call ce_116 (.cons (.t m0) .nil)) (fun w hS => t116 f hb { s with r := .iface 49 (.pointer (some ⟨r, 0, none⟩)), roff := i4, b := b4, nb := n4, hist := .slice (some ⟨hb, 0, none⟩) 32768 32768, wr := x.wr, err := .nilIface, hl := .pointer (some ⟨f, 5, none⟩), hd := .pointer (some ⟨f, 520, none⟩), cl := x.cl, cd := x.cd } hS) ?_)))))
   rintro z285 w285 ⟨hz285, hS⟩
   replace hz285 : z285 = (i64 (if s.full = true then 32768 else x.wr)) := hz285
   subst hz285
   replace hS : Sat G w285 (blk f 1054 (D { s with r := .iface 49 (.pointer (some ⟨r, 0, none⟩)), roff := i4, b := b4, nb := n4, hist := .slice (some ⟨hb, 0, none⟩) 32768 32768, wr := x.wr, err := .nilIface, hl := .pointer (some ⟨f, 5, none⟩), hd := .pointer (some ⟨f, 520, none⟩), cl := x.cl, cd := x.cd }) :: Br r B i4 :: blk hb 32768 (fun jj => u8 (x.hist jj)) :: Lnks t :: Lnks td :: R) := hS
   refine TW.at hS ?_
   refine TL.val (n_gtr d ((if s.full = true then 32768 else x.wr)) (.t m4) (.t m0) rfl rfl) (TL.sub (.hd .t5) (TL.e (CT.ifd m0 (fun c286 => ?_) (fun c286 => ?_))))
   ·
    refine CT.sub .t1 (CT.q (TL.m m4 (TL.m m5 (TL.c m0 (TL.f 2 fo_103_2 m0 (TL.val (r_ld (v := (i64 i4)) Tryz.isAgg2 m0 (.t m0) (by decide) (Dget_roff _)) (TL.val (r_mki Tryz.underlying121 (.t m0)) (TL.c m5 (TL.f 1048 fo_103_14 m0 (TL.s (r_st (F' := D { s with r := .iface 49 (.pointer (some ⟨r, 0, none⟩)), roff := i4, b := b4, nb := n4, hist := .slice (some ⟨hb, 0, none⟩) 32768 32768, wr := x.wr, err := .iface 121 (i64 i4), hl := .pointer (some ⟨f, 5, none⟩), hd := .pointer (some ⟨f, 520, none⟩), cl := x.cl, cd := x.cd }) Tryz.sizeOf82 (Dsat_err (.iface 121 (i64 i4))) a0 (.t m0) (.t m2) (by decide)) (TL.sub .t8 (TL.e (CT.ret (EX.then_ret (EX.then_ret (EX.scope_ret ?_))))))))))))))))
    exact EX.perm p4 (EX.perm p4 (EX.perm p4 (EX.perm p4 (EX.perm p4 (EX.end_ (.inl rfl) (res0 Tryz.results89) (fun _ hS => hb_err (ea := ea) (R := R) (s' := { s with r := .iface 49 (.pointer (some ⟨r, 0, none⟩)), roff := i4, b := b4, nb := n4, hist := .slice (some ⟨hb, 0, none⟩) 32768 32768, wr := x.wr, err := .iface 121 (i64 i4), hl := .pointer (some ⟨f, 5, none⟩), hd := .pointer (some ⟨f, 520, none⟩), cl := x.cl, cd := x.cd }) (TB := [(Lnks t), (Lnks td)]) rfl rfl htr.nil rfl rfl H.ex hw hrw hwl hx.un hib4 hx.sd he hS))))))
   exact absurd (far_bad hw hfar hdm) c286
  refine CT.seq (CT.block (CT.q (TL.m m0 (TL.val (n_lss c2 4 (.t m0) .c rfl rfl) (TL.a m0 (TL.sub (.hd .t2) (TL.e (CT.ifd m0 (fun c218 => ?_) (fun c218 => ?_)))))))))
  ·
   exfalso; omega
  refine CT.sub .t1 (CT.q (TL.m m0 (TL.val (n_lss c2 30 (.t m0) .c rfl rfl) (TL.a m0 (TL.sub (.hd .t2) (TL.e (CT.ifd m0 (fun c223 => ?_) (fun c223 => ?_))))))))
  ·
   exfalso; omega
  refine CT.sub .t1 (CT.q (TL.m m4 (TL.m m5 (TL.c m0 (TL.f 2 fo_103_2 m0 (TL.val (r_ld (v := (i64 i3)) Tryz.isAgg2 m0 (.t m0) (by decide) (Dget_roff _)) (TL.val (r_mki Tryz.underlying121 (.t m0)) (TL.c m5 (TL.f 1048 fo_103_14 m0 (TL.s (r_st (F' := D { s with r := .iface 49 (.pointer (some ⟨r, 0, none⟩)), roff := i3, b := b3, nb := n3, hist := .slice (some ⟨hb, 0, none⟩) 32768 32768, wr := x.wr, err := .iface 121 (i64 i3), hl := .pointer (some ⟨f, 5, none⟩), hd := .pointer (some ⟨f, 520, none⟩), cl := x.cl, cd := x.cd }) Tryz.sizeOf82 (Dsat_err (.iface 121 (i64 i3))) a0 (.t m0) (.t m2) (by decide)) (TL.sub .t8 (TL.e (CT.ret (EX.bret (EX.then_ret (EX.then_ret (EX.scope_ret ?_)))))))))))))))))
  exact EX.perm p4 (EX.perm p4 (EX.perm p4 (EX.perm p4 (EX.perm p4 (EX.end_ (.inl rfl) (res0 Tryz.results89) (fun _ hS => hb_err (ea := ea) (R := R) (s' := { s with r := .iface 49 (.pointer (some ⟨r, 0, none⟩)), roff := i3, b := b3, nb := n3, hist := .slice (some ⟨hb, 0, none⟩) 32768 32768, wr := x.wr, err := .iface 121 (i64 i3), hl := .pointer (some ⟨f, 5, none⟩), hd := .pointer (some ⟨f, 520, none⟩), cl := x.cl, cd := x.cd }) (TB := [(Lnks t), (Lnks td)]) rfl rfl htr.nil rfl rfl H.ex hw hrw hwl hx.un hib3 hx.sd he hS))))))
 intro x hx
 show CT _ _ _ [(0, (.pointer (some ⟨f, 0, none⟩)))] _ _ (blk f 1054 (D { s with r := .iface 49 (.pointer (some ⟨r, 0, none⟩)), roff := x.i, b := x.b, nb := x.nb, hist := .slice (some ⟨hb, 0, none⟩) 32768 32768, wr := x.wr, err := .nilIface, hl := .pointer (some ⟨f, 5, none⟩), hd := .pointer (some ⟨f, 520, none⟩), cl := x.cl, cd := x.cd }) :: Br r B x.i :: blk hb 32768 (fun jj => u8 (x.hist jj)) :: Lnks t :: Lnks td :: R)
 refine CT.seq (CT.skip (EX.seq (CT.seq ?_)))
 have hw := hx.win
 have hwl := hx.wl
 have hrw := hx.rw_
 have hmu := hx.mu
 have hc1 := hx.c1
 have hc2 := hx.c2
 have hc3 := hx.c3
 have hc4 := hx.c4
 refine CT.draw 11 fm (by kernel_rfl) ?_
 refine TS.val (r_move (.t m0)) ?_
 refine TS.val (r_nil (.t m0)) ?_
 refine TS.val (r_fa (off' := 1037) fo_103_9 (.t m0)) ?_
 refine TS.val (r_move (.t m3)) ?_
 refine TS.val (r_nil (.t m0)) ?_
 refine TS.val (r_fa (off' := 1053) fo_103_19 (.t m0)) ?_
 refine TS.val (r_ld (v := (i64 x.cd)) Tryz.isAgg3 m0 (.t m0) (by decide) (Dget_cd _)) ?_
 refine TS.val (r_move (.t m7)) ?_
 refine TS.val (r_nil (.t m0)) ?_
 refine TS.val (r_fa (off' := 1052) fo_103_18 (.t m0)) ?_
 refine TS.val (r_ld (v := (i64 x.cl)) Tryz.isAgg3 m0 (.t m0) (by decide) (Dget_cl _)) ?_
 refine TS.nil ?_
 refine TL.perm p2 (TL.perm p1 (TL.call (r_call ce_117 (.cons (.t m8) (.cons (.t m4) (.cons (.t m0) .nil)))) (fun w hS => t117 (s := { s with r := .iface 49 (.pointer (some ⟨r, 0, none⟩)), roff := x.i, b := x.b, nb := x.nb, hist := .slice (some ⟨hb, 0, none⟩) 32768 32768, wr := x.wr, err := .nilIface, hl := .pointer (some ⟨f, 5, none⟩), hd := .pointer (some ⟨f, 520, none⟩), cl := x.cl, cd := x.cd }) rfl hw hwl hc2 hc3 hc4 hc1 hS) ?_))
 rintro _ w314 (⟨rfl, hS⟩ | ⟨rfl, hm0, hm1, hS⟩)
 ·
  refine TW.at hS ?_
  refine TL.a m0 (TL.sub (.hd .t12) (TL.e (CT.cut (X := Nat) (fun gx => [(9, (i64 gx)), (0, (.pointer (some ⟨f, 0, none⟩)))]) (fun gx => (blk f 1054 (D { s with r := .iface 49 (.pointer (some ⟨r, 0, none⟩)), roff := x.i, b := x.b, nb := x.nb, hist := .slice (some ⟨hb, 0, none⟩) 32768 32768, wr := x.wr + gx, err := .nilIface, hl := .pointer (some ⟨f, 5, none⟩), hd := .pointer (some ⟨f, 520, none⟩), cl := x.cl, cd := x.cd })) :: Br r B x.i :: blk hb 32768 (fun jj => u8 ((updh x.hist x.wr (xsM x.h x.cd gx)) jj)) :: Lnks t :: Lnks td :: R) (fun gx => gx = min x.cl (32768 - x.wr)) ?_ ?_)))
  ·
   refine CT.q (TL.m m0 (TL.val (show Run _ _ _ _ _ _ (.bool true) from n_eql 0 0 (.t m0) .c rfl rfl) (TL.sub (.hd .t1) (TL.e (CT.ift m0 ?_)))))
   refine CT.sub .t1 (CT.draw 11 fm (by kernel_rfl) ?_)
   refine TS.val (r_move (.t m1)) ?_
   refine TS.val (r_nil (.t m0)) ?_
   refine TS.val (r_fa (off' := 1037) fo_103_9 (.t m0)) ?_
   refine TS.val (r_move (.t m4)) ?_
   refine TS.val (r_nil (.t m0)) ?_
   refine TS.val (r_fa (off' := 1053) fo_103_19 (.t m0)) ?_
   refine TS.val (r_ld (v := (i64 x.cd)) Tryz.isAgg3 m0 (.t m0) (by decide) (Dget_cd _)) ?_
   refine TS.val (r_move (.t m8)) ?_
   refine TS.val (r_nil (.t m0)) ?_
   refine TS.val (r_fa (off' := 1052) fo_103_18 (.t m0)) ?_
   refine TS.val (r_ld (v := (i64 x.cl)) Tryz.isAgg3 m0 (.t m0) (by decide) (Dget_cl _)) ?_
   refine TS.nil ?_
   refine TL.perm p1 (TL.perm p1 ?_)
   obtain ⟨m, hm⟩ : ∃ m, m = min x.cl (32768 - x.wr) := ⟨_, rfl⟩
   refine TL.perm p1 (TL.perm p1 (TL.call (r_call ce_118 (.cons (.t m8) (.cons (.t m4) (.cons (.t m0) .nil)))) (fun w hS => t118 f hb { s with r := .iface 49 (.pointer (some ⟨r, 0, none⟩)), roff := x.i, b := x.b, nb := x.nb, hist := .slice (some ⟨hb, 0, none⟩) 32768 32768, wr := x.wr, err := .nilIface, hl := .pointer (some ⟨f, 5, none⟩), hd := .pointer (some ⟨f, 520, none⟩), cl := x.cl, cd := x.cd } x.hist x.cd x.cl x.h hw hwl hc2 hc3 hc4 hc1 m hm hS) ?_))
   rintro z328 w328 ⟨hz328, hS⟩
   replace hz328 : z328 = (i64 m) := hz328
   subst hz328
   replace hS : Sat G w328 (blk f 1054 (D { s with r := .iface 49 (.pointer (some ⟨r, 0, none⟩)), roff := x.i, b := x.b, nb := x.nb, hist := .slice (some ⟨hb, 0, none⟩) 32768 32768, wr := x.wr + m, err := .nilIface, hl := .pointer (some ⟨f, 5, none⟩), hd := .pointer (some ⟨f, 520, none⟩), cl := x.cl, cd := x.cd }) :: blk hb 32768 (fun jj => u8 ((updh x.hist x.wr (xsM x.h x.cd m)) jj)) :: Br r B x.i :: Lnks t :: Lnks td :: R) := hS
   refine TW.at hS ?_
   exact TL.rm .h12 (TL.a m0 (TL.sub (.hd .t12) (TL.nil (EX.perm p4 (EX.perm p4 (EX.perm p3 (EX.perm p4 (EX.perm p4 (EX.meet m hm (.refl _) (.cons m0 (.cons m1 .nil)))))))))))
  rintro m hm
  have hmc : m ≤ x.cl := by omega
  have hmw : x.wr + m ≤ 32768 := by omega
  have hw1 := hw.write (xs := xsM x.h x.cd m) (by rw [xsM_length]; exact hmw)
  rw [xsM_length, ← copyM_split] at hw1
  have hun1 : ∃ un, copyM x.h x.cd m = del ++ un ∧ un.length = x.wr + m - s.rd := by rw [copyM_split]; exact un_app hx.un (xsM_length _ _ _) hrw
  refine CT.q (TL.m m1 (TL.c m0 (TL.f 1052 fo_103_18 m0 (TL.val (r_ld (v := (i64 x.cl)) Tryz.isAgg3 m0 (.t m0) (by decide) (Dget_cl _)) (TL.m m4 (TL.val (n_sub x.cl m 9223372036854775808 (.t m1) (.t m0) rfl rfl (by omega) (by omega)) (TL.c m5 (TL.f 1052 fo_103_18 m0 (TL.s (r_st (F' := D { s with r := .iface 49 (.pointer (some ⟨r, 0, none⟩)), roff := x.i, b := x.b, nb := x.nb, hist := .slice (some ⟨hb, 0, none⟩) 32768 32768, wr := x.wr + m, err := .nilIface, hl := .pointer (some ⟨f, 5, none⟩), hd := .pointer (some ⟨f, 520, none⟩), cl := x.cl - m, cd := x.cd }) Tryz.sizeOf3 (Dsat_cl ((x.cl - m))) a0 (.t m0) (.t m2) (by decide)) (TL.sub .t8 (TL.e (CT.seq (CT.q (TL.m m1 (TL.c m0 (TL.f 1037 fo_103_9 m0 (TL.call (r_call ce_114 (.cons (.t m0) .nil)) (fun w hS => t114 f hb { s with r := .iface 49 (.pointer (some ⟨r, 0, none⟩)), roff := x.i, b := x.b, nb := x.nb, hist := .slice (some ⟨hb, 0, none⟩) 32768 32768, wr := x.wr + m, err := .nilIface, hl := .pointer (some ⟨f, 5, none⟩), hd := .pointer (some ⟨f, 520, none⟩), cl := x.cl - m, cd := x.cd } (by show (x.wr + m) ≤ 32768; omega) hS) ?_)))))))))))))))))
  rintro z340 w340 ⟨hz340, hS⟩
  replace hz340 : z340 = (i64 (32768 - (x.wr + m))) := hz340
  subst hz340
  replace hS : Sat G w340 (blk f 1054 (D { s with r := .iface 49 (.pointer (some ⟨r, 0, none⟩)), roff := x.i, b := x.b, nb := x.nb, hist := .slice (some ⟨hb, 0, none⟩) 32768 32768, wr := x.wr + m, err := .nilIface, hl := .pointer (some ⟨f, 5, none⟩), hd := .pointer (some ⟨f, 520, none⟩), cl := x.cl - m, cd := x.cd }) :: Br r B x.i :: blk hb 32768 (fun jj => u8 ((updh x.hist x.wr (xsM x.h x.cd m)) jj)) :: Lnks t :: Lnks td :: R) := hS
  refine TW.at hS ?_
  refine TL.val (n_eql ((32768 - (x.wr + m))) 0 (.t m0) .c rfl rfl) (TL.m m0 ?_)
  by_cases g342 : (32768 - (x.wr + m)) = 0
  ·
   have hW : x.wr + m = 32768 := by omega
   refine TL.sub (.eq m0 (congrArg Value.bool (decide_eq_true g342)) (.eq m1 (congrArg Value.bool (decide_eq_true g342)) (.cons m2 (.cons m3 (.cons m4 (.cons m5 (.cons m6 (.cons m7 .nil)))))))) (TL.gn m0 (TL.gn m0 (TL.gn m0 (TL.gn m0 (TL.gn m0 (TL.val (r_pickt (.t m0) .c) (TL.sub (.hd .t6) (TL.e (CT.ift m0 ?_)))))))))
   refine CT.sub .t1 (CT.q (TL.m m1 (TL.m m2 (TL.c m0 (TL.f 1037 fo_103_9 m0 (TL.call (r_call ce_108 (.cons (.t m0) .nil)) (fun w hS => t108 f hb { s with r := .iface 49 (.pointer (some ⟨r, 0, none⟩)), roff := x.i, b := x.b, nb := x.nb, hist := .slice (some ⟨hb, 0, none⟩) 32768 32768, wr := x.wr + m, err := .nilIface, hl := .pointer (some ⟨f, 5, none⟩), hd := .pointer (some ⟨f, 520, none⟩), cl := x.cl - m, cd := x.cd } (by show s.rd ≤ (x.wr + m); omega) (by show (x.wr + m) ≤ 32768; omega) (by show s.rd < 32768; omega) hS) ?_))))))
   rintro z353 w353 ⟨hz353, hS⟩
   replace hz353 : z353 = (.slice (some ⟨hb, s.rd, none⟩) (((x.wr + m) - s.rd)) ((32768 - s.rd))) := hz353
   subst hz353
   replace hS : Sat G w353 (blk f 1054 (D { s with r := .iface 49 (.pointer (some ⟨r, 0, none⟩)), roff := x.i, b := x.b, nb := x.nb, hist := .slice (some ⟨hb, 0, none⟩) 32768 32768, wr := (x.wr + m) % 32768, rd := (x.wr + m) % 32768, full := s.full || decide ((x.wr + m) = 32768), err := .nilIface, hl := .pointer (some ⟨f, 5, none⟩), hd := .pointer (some ⟨f, 520, none⟩), cl := x.cl - m, cd := x.cd }) :: Br r B x.i :: blk hb 32768 (fun jj => u8 ((updh x.hist x.wr (xsM x.h x.cd m)) jj)) :: Lnks t :: Lnks td :: R) := hS
   refine TW.at hS ?_
   refine TL.c m4 (TL.f 1049 fo_103_15 m0 (TL.s (r_st (F' := D { s with r := .iface 49 (.pointer (some ⟨r, 0, none⟩)), roff := x.i, b := x.b, nb := x.nb, hist := .slice (some ⟨hb, 0, none⟩) 32768 32768, wr := (x.wr + m) % 32768, rd := (x.wr + m) % 32768, full := s.full || decide ((x.wr + m) = 32768), err := .nilIface, toRead := .slice (some ⟨hb, s.rd, none⟩) (((x.wr + m) - s.rd)) ((32768 - s.rd)), hl := .pointer (some ⟨f, 5, none⟩), hd := .pointer (some ⟨f, 520, none⟩), cl := x.cl - m, cd := x.cd }) Tryz.sizeOf22 (Dsat_toRead (.slice (some ⟨hb, s.rd, none⟩) (((x.wr + m) - s.rd)) ((32768 - s.rd)))) a0 (.t m0) (.t m2) (by decide)) (TL.sub .t7 (TL.q (TL.m m1 (TL.c m0 (TL.f 1045 fo_103_11 m0 (TL.s (r_st (F' := D { s with r := .iface 49 (.pointer (some ⟨r, 0, none⟩)), roff := x.i, b := x.b, nb := x.nb, hist := .slice (some ⟨hb, 0, none⟩) 32768 32768, wr := (x.wr + m) % 32768, rd := (x.wr + m) % 32768, full := s.full || decide ((x.wr + m) = 32768), step := .func (.func 89) #[] #[], err := .nilIface, toRead := .slice (some ⟨hb, s.rd, none⟩) (((x.wr + m) - s.rd)) ((32768 - s.rd)), hl := .pointer (some ⟨f, 5, none⟩), hd := .pointer (some ⟨f, 520, none⟩), cl := x.cl - m, cd := x.cd }) Tryz.sizeOf100 (Dsat_step (.func (.func 89) #[] #[])) a0 (.t m0) .f (by decide)) (TL.sub .t3 (TL.q (TL.m m1 (TL.c m0 (TL.f 1046 fo_103_12 m0 (TL.s (r_st (F' := D { s with r := .iface 49 (.pointer (some ⟨r, 0, none⟩)), roff := x.i, b := x.b, nb := x.nb, hist := .slice (some ⟨hb, 0, none⟩) 32768 32768, wr := (x.wr + m) % 32768, rd := (x.wr + m) % 32768, full := s.full || decide ((x.wr + m) = 32768), step := .func (.func 89) #[] #[], ss := 1, err := .nilIface, toRead := .slice (some ⟨hb, s.rd, none⟩) (((x.wr + m) - s.rd)) ((32768 - s.rd)), hl := .pointer (some ⟨f, 5, none⟩), hd := .pointer (some ⟨f, 520, none⟩), cl := x.cl - m, cd := x.cd }) Tryz.sizeOf3 (Dsat_ss 1) a0 (.t m0) .c (by decide)) (TL.sub .t3 (TL.e (CT.ret (EX.then_ret (EX.scope_ret ?_)))))))))))))))))))
   exact EX.perm p4 (EX.perm p4 (EX.perm p4 (EX.perm p4 (EX.perm p4 (EX.end_ (.inl rfl) (res0 Tryz.results89) (fun _ hS => hb_flush (s := s) (ea := ea) (R := R) (s' := { s with r := .iface 49 (.pointer (some ⟨r, 0, none⟩)), roff := x.i, b := x.b, nb := x.nb, hist := .slice (some ⟨hb, 0, none⟩) 32768 32768, wr := (x.wr + m) % 32768, rd := (x.wr + m) % 32768, full := s.full || decide ((x.wr + m) = 32768), step := .func (.func 89) #[] #[], ss := 1, err := .nilIface, toRead := .slice (some ⟨hb, s.rd, none⟩) (((x.wr + m) - s.rd)) ((32768 - s.rd)), hl := .pointer (some ⟨f, 5, none⟩), hd := .pointer (some ⟨f, 520, none⟩), cl := x.cl - m, cd := x.cd }) (W := x.wr + m) (k := x.k) (ls := ls) (ds := ds) (TB := [(Lnks t), (Lnks td)]) rfl rfl rfl rfl rfl rfl rfl rfl rfl H.ex hw1 (by omega) (by omega) hun1 hx.il (.inr ⟨rfl, by show x.cl - m ≤ 258; omega, hc2, by show x.cd ≤ (copyM x.h x.cd m).length; rw [copyM_length]; omega, hc4, rfl⟩) hx.held hx.nbl (by show HTail ls ds s.final x.k (B.drop x.k) (if (1 : Nat) = 0 then _ else copyM (copyM x.h x.cd m) x.cd (x.cl - m)) hF; rw [if_neg (by decide), copyM_add, show m + (x.cl - m) = x.cl by omega]; exact hx.tail) (by show 1000 * (B.length - x.k) + 2 + (x.cl - m) < mu0; omega) (fun m hm => ⟨h256, .inr ⟨(t, td), sep_pure ⟨rfl, rfl, ht, hmn, htd⟩ hm⟩⟩) hS))))))
  refine TL.sub (.eq m0 (congrArg Value.bool (decide_eq_false g342)) (.eq m1 (congrArg Value.bool (decide_eq_false g342)) (.cons m2 (.cons m3 (.cons m4 (.cons m5 (.cons m6 (.cons m7 .nil)))))))) (TL.gv m0 (r_move (.t m7)) (TL.gv m1 (r_nil (.t m0)) (TL.gv m2 (r_fa (off' := 1052) fo_103_18 (.t m0)) (TL.gv m3 (r_ld (v := (i64 (x.cl - m))) Tryz.isAgg3 m0 (.t m0) (by decide) (Dget_cl _)) (TL.gv m4 (n_gtr ((x.cl - m)) 0 (.t m0) .c rfl rfl) (TL.val (r_pickf (.t m5) (.t m0)) (TL.sub (.hd .t11) (TL.e (CT.ifd m0 (fun c348 => ?_) (fun c348 => ?_))))))))))
  ·
   have hW : x.wr + m = 32768 := by omega
   refine CT.sub .t1 (CT.q (TL.m m1 (TL.m m2 (TL.c m0 (TL.f 1037 fo_103_9 m0 (TL.call (r_call ce_108 (.cons (.t m0) .nil)) (fun w hS => t108 f hb { s with r := .iface 49 (.pointer (some ⟨r, 0, none⟩)), roff := x.i, b := x.b, nb := x.nb, hist := .slice (some ⟨hb, 0, none⟩) 32768 32768, wr := x.wr + m, err := .nilIface, hl := .pointer (some ⟨f, 5, none⟩), hd := .pointer (some ⟨f, 520, none⟩), cl := x.cl - m, cd := x.cd } (by show s.rd ≤ (x.wr + m); omega) (by show (x.wr + m) ≤ 32768; omega) (by show s.rd < 32768; omega) hS) ?_))))))
   rintro z353 w353 ⟨hz353, hS⟩
   replace hz353 : z353 = (.slice (some ⟨hb, s.rd, none⟩) (((x.wr + m) - s.rd)) ((32768 - s.rd))) := hz353
   subst hz353
   replace hS : Sat G w353 (blk f 1054 (D { s with r := .iface 49 (.pointer (some ⟨r, 0, none⟩)), roff := x.i, b := x.b, nb := x.nb, hist := .slice (some ⟨hb, 0, none⟩) 32768 32768, wr := (x.wr + m) % 32768, rd := (x.wr + m) % 32768, full := s.full || decide ((x.wr + m) = 32768), err := .nilIface, hl := .pointer (some ⟨f, 5, none⟩), hd := .pointer (some ⟨f, 520, none⟩), cl := x.cl - m, cd := x.cd }) :: Br r B x.i :: blk hb 32768 (fun jj => u8 ((updh x.hist x.wr (xsM x.h x.cd m)) jj)) :: Lnks t :: Lnks td :: R) := hS
   refine TW.at hS ?_
   refine TL.c m4 (TL.f 1049 fo_103_15 m0 (TL.s (r_st (F' := D { s with r := .iface 49 (.pointer (some ⟨r, 0, none⟩)), roff := x.i, b := x.b, nb := x.nb, hist := .slice (some ⟨hb, 0, none⟩) 32768 32768, wr := (x.wr + m) % 32768, rd := (x.wr + m) % 32768, full := s.full || decide ((x.wr + m) = 32768), err := .nilIface, toRead := .slice (some ⟨hb, s.rd, none⟩) (((x.wr + m) - s.rd)) ((32768 - s.rd)), hl := .pointer (some ⟨f, 5, none⟩), hd := .pointer (some ⟨f, 520, none⟩), cl := x.cl - m, cd := x.cd }) Tryz.sizeOf22 (Dsat_toRead (.slice (some ⟨hb, s.rd, none⟩) (((x.wr + m) - s.rd)) ((32768 - s.rd)))) a0 (.t m0) (.t m2) (by decide)) (TL.sub .t7 (TL.q (TL.m m1 (TL.c m0 (TL.f 1045 fo_103_11 m0 (TL.s (r_st (F' := D { s with r := .iface 49 (.pointer (some ⟨r, 0, none⟩)), roff := x.i, b := x.b, nb := x.nb, hist := .slice (some ⟨hb, 0, none⟩) 32768 32768, wr := (x.wr + m) % 32768, rd := (x.wr + m) % 32768, full := s.full || decide ((x.wr + m) = 32768), step := .func (.func 89) #[] #[], err := .nilIface, toRead := .slice (some ⟨hb, s.rd, none⟩) (((x.wr + m) - s.rd)) ((32768 - s.rd)), hl := .pointer (some ⟨f, 5, none⟩), hd := .pointer (some ⟨f, 520, none⟩), cl := x.cl - m, cd := x.cd }) Tryz.sizeOf100 (Dsat_step (.func (.func 89) #[] #[])) a0 (.t m0) .f (by decide)) (TL.sub .t3 (TL.q (TL.m m1 (TL.c m0 (TL.f 1046 fo_103_12 m0 (TL.s (r_st (F' := D { s with r := .iface 49 (.pointer (some ⟨r, 0, none⟩)), roff := x.i, b := x.b, nb := x.nb, hist := .slice (some ⟨hb, 0, none⟩) 32768 32768, wr := (x.wr + m) % 32768, rd := (x.wr + m) % 32768, full := s.full || decide ((x.wr + m) = 32768), step := .func (.func 89) #[] #[], ss := 1, err := .nilIface, toRead := .slice (some ⟨hb, s.rd, none⟩) (((x.wr + m) - s.rd)) ((32768 - s.rd)), hl := .pointer (some ⟨f, 5, none⟩), hd := .pointer (some ⟨f, 520, none⟩), cl := x.cl - m, cd := x.cd }) Tryz.sizeOf3 (Dsat_ss 1) a0 (.t m0) .c (by decide)) (TL.sub .t3 (TL.e (CT.ret (EX.then_ret (EX.scope_ret ?_)))))))))))))))))))
   exact EX.perm p4 (EX.perm p4 (EX.perm p4 (EX.perm p4 (EX.perm p4 (EX.end_ (.inl rfl) (res0 Tryz.results89) (fun _ hS => hb_flush (s := s) (ea := ea) (R := R) (s' := { s with r := .iface 49 (.pointer (some ⟨r, 0, none⟩)), roff := x.i, b := x.b, nb := x.nb, hist := .slice (some ⟨hb, 0, none⟩) 32768 32768, wr := (x.wr + m) % 32768, rd := (x.wr + m) % 32768, full := s.full || decide ((x.wr + m) = 32768), step := .func (.func 89) #[] #[], ss := 1, err := .nilIface, toRead := .slice (some ⟨hb, s.rd, none⟩) (((x.wr + m) - s.rd)) ((32768 - s.rd)), hl := .pointer (some ⟨f, 5, none⟩), hd := .pointer (some ⟨f, 520, none⟩), cl := x.cl - m, cd := x.cd }) (W := x.wr + m) (k := x.k) (ls := ls) (ds := ds) (TB := [(Lnks t), (Lnks td)]) rfl rfl rfl rfl rfl rfl rfl rfl rfl H.ex hw1 (by omega) (by omega) hun1 hx.il (.inr ⟨rfl, by show x.cl - m ≤ 258; omega, hc2, by show x.cd ≤ (copyM x.h x.cd m).length; rw [copyM_length]; omega, hc4, rfl⟩) hx.held hx.nbl (by show HTail ls ds s.final x.k (B.drop x.k) (if (1 : Nat) = 0 then _ else copyM (copyM x.h x.cd m) x.cd (x.cl - m)) hF; rw [if_neg (by decide), copyM_add, show m + (x.cl - m) = x.cl by omega]; exact hx.tail) (by show 1000 * (B.length - x.k) + 2 + (x.cl - m) < mu0; omega) (fun m hm => ⟨h256, .inr ⟨(t, td), sep_pure ⟨rfl, rfl, ht, hmn, htd⟩ hm⟩⟩) hS))))))
  have hmcl : m = x.cl := by omega
  exact CT.sub .t1 (CT.skip (EX.seq (CT.goto (EX.jump0 (⟨x.i, x.b, x.nb, (x.wr + m), x.k, (x.cl - m), x.cd, (updh x.hist x.wr (xsM x.h x.cd m)), (copyM x.h x.cd m)⟩) (⟨⟨hw1, by show s.rd ≤ x.wr + m; omega, by show x.wr + m < 32768; omega, hx.held, hx.nbl, hun1, hx.il, hx.s01⟩, by show HTail ls ds s.final x.k (B.drop x.k) (copyM x.h x.cd m) hF; rw [hmcl]; exact hx.tail, by show 1000 * (B.length - x.k) + 1 ≤ mu0; omega, fun _ => ⟨by show x.cl - m = 0; omega, hc2, by show x.cd ≤ (copyM x.h x.cd m).length; rw [copyM_length]; omega, hc4⟩⟩) (by show 2 * (B.length - x.k) < 2 * (B.length - x.k) + 1; omega) (.refl _) (.cons m1 .nil)))))
 replace hm1 : x.wr + x.cl ≤ 32768 := hm1
 replace hS : Sat G w314 (blk f 1054 (D { s with r := .iface 49 (.pointer (some ⟨r, 0, none⟩)), roff := x.i, b := x.b, nb := x.nb, hist := .slice (some ⟨hb, 0, none⟩) 32768 32768, wr := x.wr + x.cl, err := .nilIface, hl := .pointer (some ⟨f, 5, none⟩), hd := .pointer (some ⟨f, 520, none⟩), cl := x.cl, cd := x.cd }) :: blk hb 32768 (fun jj => u8 ((updh x.hist x.wr (xsM x.h x.cd x.cl)) jj)) :: Br r B x.i :: Lnks t :: Lnks td :: R) := hS
 refine TW.at hS ?_
 refine TL.a m0 (TL.sub (.hd .t12) (TL.e (CT.cut (X := Nat) (fun gx => [(9, (i64 gx)), (0, (.pointer (some ⟨f, 0, none⟩)))]) (fun gx => (blk f 1054 (D { s with r := .iface 49 (.pointer (some ⟨r, 0, none⟩)), roff := x.i, b := x.b, nb := x.nb, hist := .slice (some ⟨hb, 0, none⟩) 32768 32768, wr := x.wr + gx, err := .nilIface, hl := .pointer (some ⟨f, 5, none⟩), hd := .pointer (some ⟨f, 520, none⟩), cl := x.cl, cd := x.cd })) :: Br r B x.i :: blk hb 32768 (fun jj => u8 ((updh x.hist x.wr (xsM x.h x.cd gx)) jj)) :: Lnks t :: Lnks td :: R) (fun gx => gx = min x.cl (32768 - x.wr)) ?_ ?_)))
 ·
  refine CT.q (TL.m m0 (TL.val (n_eql x.cl 0 (.t m0) .c rfl rfl) (TL.sub (.hd .t1) (TL.e (CT.ifd m0 (fun c316 => ?_) (fun c316 => ?_))))))
  ·
   exfalso; omega
  exact CT.sub .t1 (CT.skip (EX.perm p4 (EX.perm p4 (EX.perm p3 (EX.perm p4 (EX.perm p4 (EX.meet x.cl (by omega) (.refl _) (.cons m0 (.cons m1 .nil)))))))))
 rintro m hm
 have hmc : m ≤ x.cl := by omega
 have hmw : x.wr + m ≤ 32768 := by omega
 have hw1 := hw.write (xs := xsM x.h x.cd m) (by rw [xsM_length]; exact hmw)
 rw [xsM_length, ← copyM_split] at hw1
 have hun1 : ∃ un, copyM x.h x.cd m = del ++ un ∧ un.length = x.wr + m - s.rd := by rw [copyM_split]; exact un_app hx.un (xsM_length _ _ _) hrw
 refine CT.q (TL.m m1 (TL.c m0 (TL.f 1052 fo_103_18 m0 (TL.val (r_ld (v := (i64 x.cl)) Tryz.isAgg3 m0 (.t m0) (by decide) (Dget_cl _)) (TL.m m4 (TL.val (n_sub x.cl m 9223372036854775808 (.t m1) (.t m0) rfl rfl (by omega) (by omega)) (TL.c m5 (TL.f 1052 fo_103_18 m0 (TL.s (r_st (F' := D { s with r := .iface 49 (.pointer (some ⟨r, 0, none⟩)), roff := x.i, b := x.b, nb := x.nb, hist := .slice (some ⟨hb, 0, none⟩) 32768 32768, wr := x.wr + m, err := .nilIface, hl := .pointer (some ⟨f, 5, none⟩), hd := .pointer (some ⟨f, 520, none⟩), cl := x.cl - m, cd := x.cd }) Tryz.sizeOf3 (Dsat_cl ((x.cl - m))) a0 (.t m0) (.t m2) (by decide)) (TL.sub .t8 (TL.e (CT.seq (CT.q (TL.m m1 (TL.c m0 (TL.f 1037 fo_103_9 m0 (TL.call (r_call ce_114 (.cons (.t m0) .nil)) (fun w hS => t114 f hb { s with r := .iface 49 (.pointer (some ⟨r, 0, none⟩)), roff := x.i, b := x.b, nb := x.nb, hist := .slice (some ⟨hb, 0, none⟩) 32768 32768, wr := x.wr + m, err := .nilIface, hl := .pointer (some ⟨f, 5, none⟩), hd := .pointer (some ⟨f, 520, none⟩), cl := x.cl - m, cd := x.cd } (by show (x.wr + m) ≤ 32768; omega) hS) ?_)))))))))))))))))
 rintro z340 w340 ⟨hz340, hS⟩
 replace hz340 : z340 = (i64 (32768 - (x.wr + m))) := hz340
 subst hz340
 replace hS : Sat G w340 (blk f 1054 (D { s with r := .iface 49 (.pointer (some ⟨r, 0, none⟩)), roff := x.i, b := x.b, nb := x.nb, hist := .slice (some ⟨hb, 0, none⟩) 32768 32768, wr := x.wr + m, err := .nilIface, hl := .pointer (some ⟨f, 5, none⟩), hd := .pointer (some ⟨f, 520, none⟩), cl := x.cl - m, cd := x.cd }) :: Br r B x.i :: blk hb 32768 (fun jj => u8 ((updh x.hist x.wr (xsM x.h x.cd m)) jj)) :: Lnks t :: Lnks td :: R) := hS
 refine TW.at hS ?_
 refine TL.val (n_eql ((32768 - (x.wr + m))) 0 (.t m0) .c rfl rfl) (TL.m m0 ?_)
 by_cases g342 : (32768 - (x.wr + m)) = 0
 ·
  have hW : x.wr + m = 32768 := by omega
  refine TL.sub (.eq m0 (congrArg Value.bool (decide_eq_true g342)) (.eq m1 (congrArg Value.bool (decide_eq_true g342)) (.cons m2 (.cons m3 (.cons m4 (.cons m5 (.cons m6 (.cons m7 .nil)))))))) (TL.gn m0 (TL.gn m0 (TL.gn m0 (TL.gn m0 (TL.gn m0 (TL.val (r_pickt (.t m0) .c) (TL.sub (.hd .t6) (TL.e (CT.ift m0 ?_)))))))))
  refine CT.sub .t1 (CT.q (TL.m m1 (TL.m m2 (TL.c m0 (TL.f 1037 fo_103_9 m0 (TL.call (r_call ce_108 (.cons (.t m0) .nil)) (fun w hS => t108 f hb { s with r := .iface 49 (.pointer (some ⟨r, 0, none⟩)), roff := x.i, b := x.b, nb := x.nb, hist := .slice (some ⟨hb, 0, none⟩) 32768 32768, wr := x.wr + m, err := .nilIface, hl := .pointer (some ⟨f, 5, none⟩), hd := .pointer (some ⟨f, 520, none⟩), cl := x.cl - m, cd := x.cd } (by show s.rd ≤ (x.wr + m); omega) (by show (x.wr + m) ≤ 32768; omega) (by show s.rd < 32768; omega) hS) ?_))))))
  rintro z353 w353 ⟨hz353, hS⟩
  replace hz353 : z353 = (.slice (some ⟨hb, s.rd, none⟩) (((x.wr + m) - s.rd)) ((32768 - s.rd))) := hz353
  subst hz353
  replace hS : Sat G w353 (blk f 1054 (D { s with r := .iface 49 (.pointer (some ⟨r, 0, none⟩)), roff := x.i, b := x.b, nb := x.nb, hist := .slice (some ⟨hb, 0, none⟩) 32768 32768, wr := (x.wr + m) % 32768, rd := (x.wr + m) % 32768, full := s.full || decide ((x.wr + m) = 32768), err := .nilIface, hl := .pointer (some ⟨f, 5, none⟩), hd := .pointer (some ⟨f, 520, none⟩), cl := x.cl - m, cd := x.cd }) :: Br r B x.i :: blk hb 32768 (fun jj => u8 ((updh x.hist x.wr (xsM x.h x.cd m)) jj)) :: Lnks t :: Lnks td :: R) := hS
  refine TW.at hS ?_
  refine TL.c m4 (TL.f 1049 fo_103_15 m0 (TL.s (r_st (F' := D { s with r := .iface 49 (.pointer (some ⟨r, 0, none⟩)), roff := x.i, b := x.b, nb := x.nb, hist := .slice (some ⟨hb, 0, none⟩) 32768 32768, wr := (x.wr + m) % 32768, rd := (x.wr + m) % 32768, full := s.full || decide ((x.wr + m) = 32768), err := .nilIface, toRead := .slice (some ⟨hb, s.rd, none⟩) (((x.wr + m) - s.rd)) ((32768 - s.rd)), hl := .pointer (some ⟨f, 5, none⟩), hd := .pointer (some ⟨f, 520, none⟩), cl := x.cl - m, cd := x.cd }) Tryz.sizeOf22 (Dsat_toRead (.slice (some ⟨hb, s.rd, none⟩) (((x.wr + m) - s.rd)) ((32768 - s.rd)))) a0 (.t m0) (.t m2) (by decide)) (TL.sub .t7 (TL.q (TL.m m1 (TL.c m0 (TL.f 1045 fo_103_11 m0 (TL.s (r_st (F' := D { s with r := .iface 49 (.pointer (some ⟨r, 0, none⟩)), roff := x.i, b := x.b, nb := x.nb, hist := .slice (some ⟨hb, 0, none⟩) 32768 32768, wr := (x.wr + m) % 32768, rd := (x.wr + m) % 32768, full := s.full || decide ((x.wr + m) = 32768), step := .func (.func 89) #[] #[], err := .nilIface, toRead := .slice (some ⟨hb, s.rd, none⟩) (((x.wr + m) - s.rd)) ((32768 - s.rd)), hl := .pointer (some ⟨f, 5, none⟩), hd := .pointer (some ⟨f, 520, none⟩), cl := x.cl - m, cd := x.cd }) Tryz.sizeOf100 (Dsat_step (.func (.func 89) #[] #[])) a0 (.t m0) .f (by decide)) (TL.sub .t3 (TL.q (TL.m m1 (TL.c m0 (TL.f 1046 fo_103_12 m0 (TL.s (r_st (F' := D { s with r := .iface 49 (.pointer (some ⟨r, 0, none⟩)), roff := x.i, b := x.b, nb := x.nb, hist := .slice (some ⟨hb, 0, none⟩) 32768 32768, wr := (x.wr + m) % 32768, rd := (x.wr + m) % 32768, full := s.full || decide ((x.wr + m) = 32768), step := .func (.func 89) #[] #[], ss := 1, err := .nilIface, toRead := .slice (some ⟨hb, s.rd, none⟩) (((x.wr + m) - s.rd)) ((32768 - s.rd)), hl := .pointer (some ⟨f, 5, none⟩), hd := .pointer (some ⟨f, 520, none⟩), cl := x.cl - m, cd := x.cd }) Tryz.sizeOf3 (Dsat_ss 1) a0 (.t m0) .c (by decide)) (TL.sub .t3 (TL.e (CT.ret (EX.then_ret (EX.scope_ret ?_)))))))))))))))))))
  exact EX.perm p4 (EX.perm p4 (EX.perm p4 (EX.perm p4 (EX.perm p4 (EX.end_ (.inl rfl) (res0 Tryz.results89) (fun _ hS => hb_flush (s := s) (ea := ea) (R := R) (s' := { s with r := .iface 49 (.pointer (some ⟨r, 0, none⟩)), roff := x.i, b := x.b, nb := x.nb, hist := .slice (some ⟨hb, 0, none⟩) 32768 32768, wr := (x.wr + m) % 32768, rd := (x.wr + m) % 32768, full := s.full || decide ((x.wr + m) = 32768), step := .func (.func 89) #[] #[], ss := 1, err := .nilIface, toRead := .slice (some ⟨hb, s.rd, none⟩) (((x.wr + m) - s.rd)) ((32768 - s.rd)), hl := .pointer (some ⟨f, 5, none⟩), hd := .pointer (some ⟨f, 520, none⟩), cl := x.cl - m, cd := x.cd }) (W := x.wr + m) (k := x.k) (ls := ls) (ds := ds) (TB := [(Lnks t), (Lnks td)]) rfl rfl rfl rfl rfl rfl rfl rfl rfl H.ex hw1 (by omega) (by omega) hun1 hx.il (.inr ⟨rfl, by show x.cl - m ≤ 258; omega, hc2, by show x.cd ≤ (copyM x.h x.cd m).length; rw [copyM_length]; omega, hc4, rfl⟩) hx.held hx.nbl (by show HTail ls ds s.final x.k (B.drop x.k) (if (1 : Nat) = 0 then _ else copyM (copyM x.h x.cd m) x.cd (x.cl - m)) hF; rw [if_neg (by decide), copyM_add, show m + (x.cl - m) = x.cl by omega]; exact hx.tail) (by show 1000 * (B.length - x.k) + 2 + (x.cl - m) < mu0; omega) (fun m hm => ⟨h256, .inr ⟨(t, td), sep_pure ⟨rfl, rfl, ht, hmn, htd⟩ hm⟩⟩) hS))))))
 refine TL.sub (.eq m0 (congrArg Value.bool (decide_eq_false g342)) (.eq m1 (congrArg Value.bool (decide_eq_false g342)) (.cons m2 (.cons m3 (.cons m4 (.cons m5 (.cons m6 (.cons m7 .nil)))))))) (TL.gv m0 (r_move (.t m7)) (TL.gv m1 (r_nil (.t m0)) (TL.gv m2 (r_fa (off' := 1052) fo_103_18 (.t m0)) (TL.gv m3 (r_ld (v := (i64 (x.cl - m))) Tryz.isAgg3 m0 (.t m0) (by decide) (Dget_cl _)) (TL.gv m4 (n_gtr ((x.cl - m)) 0 (.t m0) .c rfl rfl) (TL.val (r_pickf (.t m5) (.t m0)) (TL.sub (.hd .t11) (TL.e (CT.ifd m0 (fun c348 => ?_) (fun c348 => ?_))))))))))
 ·
  have hW : x.wr + m = 32768 := by omega
  refine CT.sub .t1 (CT.q (TL.m m1 (TL.m m2 (TL.c m0 (TL.f 1037 fo_103_9 m0 (TL.call (r_call ce_108 (.cons (.t m0) .nil)) (fun w hS => t108 f hb { s with r := .iface 49 (.pointer (some ⟨r, 0, none⟩)), roff := x.i, b := x.b, nb := x.nb, hist := .slice (some ⟨hb, 0, none⟩) 32768 32768, wr := x.wr + m, err := .nilIface, hl := .pointer (some ⟨f, 5, none⟩), hd := .pointer (some ⟨f, 520, none⟩), cl := x.cl - m, cd := x.cd } (by show s.rd ≤ (x.wr + m); omega) (by show (x.wr + m) ≤ 32768; omega) (by show s.rd < 32768; omega) hS) ?_))))))
  rintro z353 w353 ⟨hz353, hS⟩
  replace hz353 : z353 = (.slice (some ⟨hb, s.rd, none⟩) (((x.wr + m) - s.rd)) ((32768 - s.rd))) := hz353
  subst hz353
  replace hS : Sat G w353 (blk f 1054 (D { s with r := .iface 49 (.pointer (some ⟨r, 0, none⟩)), roff := x.i, b := x.b, nb := x.nb, hist := .slice (some ⟨hb, 0, none⟩) 32768 32768, wr := (x.wr + m) % 32768, rd := (x.wr + m) % 32768, full := s.full || decide ((x.wr + m) = 32768), err := .nilIface, hl := .pointer (some ⟨f, 5, none⟩), hd := .pointer (some ⟨f, 520, none⟩), cl := x.cl - m, cd := x.cd }) :: Br r B x.i :: blk hb 32768 (fun jj => u8 ((updh x.hist x.wr (xsM x.h x.cd m)) jj)) :: Lnks t :: Lnks td :: R) := hS
  refine TW.at hS ?_
  refine TL.c m4 (TL.f 1049 fo_103_15 m0 (TL.s (r_st (F' := D { s with r := .iface 49 (.pointer (some ⟨r, 0, none⟩)), roff := x.i, b := x.b, nb := x.nb, hist := .slice (some ⟨hb, 0, none⟩) 32768 32768, wr := (x.wr + m) % 32768, rd := (x.wr + m) % 32768, full := s.full || decide ((x.wr + m) = 32768), err := .nilIface, toRead := .slice (some ⟨hb, s.rd, none⟩) (((x.wr + m) - s.rd)) ((32768 - s.rd)), hl := .pointer (some ⟨f, 5, none⟩), hd := .pointer (some ⟨f, 520, none⟩), cl := x.cl - m, cd := x.cd }) Tryz.sizeOf22 (Dsat_toRead (.slice (some ⟨hb, s.rd, none⟩) (((x.wr + m) - s.rd)) ((32768 - s.rd)))) a0 (.t m0) (.t m2) (by decide)) (TL.sub .t7 (TL.q (TL.m m1 (TL.c m0 (TL.f 1045 fo_103_11 m0 (TL.s (r_st (F' := D { s with r := .iface 49 (.pointer (some ⟨r, 0, none⟩)), roff := x.i, b := x.b, nb := x.nb, hist := .slice (some ⟨hb, 0, none⟩) 32768 32768, wr := (x.wr + m) % 32768, rd := (x.wr + m) % 32768, full := s.full || decide ((x.wr + m) = 32768), step := .func (.func 89) #[] #[], err := .nilIface, toRead := .slice (some ⟨hb, s.rd, none⟩) (((x.wr + m) - s.rd)) ((32768 - s.rd)), hl := .pointer (some ⟨f, 5, none⟩), hd := .pointer (some ⟨f, 520, none⟩), cl := x.cl - m, cd := x.cd }) Tryz.sizeOf100 (Dsat_step (.func (.func 89) #[] #[])) a0 (.t m0) .f (by decide)) (TL.sub .t3 (TL.q (TL.m m1 (TL.c m0 (TL.f 1046 fo_103_12 m0 (TL.s (r_st (F' := D { s with r := .iface 49 (.pointer (some ⟨r, 0, none⟩)), roff := x.i, b := x.b, nb := x.nb, hist := .slice (some ⟨hb, 0, none⟩) 32768 32768, wr := (x.wr + m) % 32768, rd := (x.wr + m) % 32768, full := s.full || decide ((x.wr + m) = 32768), step := .func (.func 89) #[] #[], ss := 1, err := .nilIface, toRead := .slice (some ⟨hb, s.rd, none⟩) (((x.wr + m) - s.rd)) ((32768 - s.rd)), hl := .pointer (some ⟨f, 5, none⟩), hd := .pointer (some ⟨f, 520, none⟩), cl := x.cl - m, cd := x.cd }) Tryz.sizeOf3 (Dsat_ss 1) a0 (.t m0) .c (by decide)) (TL.sub .t3 (TL.e (CT.ret (EX.then_ret (EX.scope_ret ?_)))))))))))))))))))
  exact EX.perm p4 (EX.perm p4 (EX.perm p4 (EX.perm p4 (EX.perm p4 (EX.end_ (.inl rfl) (res0 Tryz.results89) (fun _ hS => hb_flush (s := s) (ea := ea) (R := R) (s' := { s with r := .iface 49 (.pointer (some ⟨r, 0, none⟩)), roff := x.i, b := x.b, nb := x.nb, hist := .slice (some ⟨hb, 0, none⟩) 32768 32768, wr := (x.wr + m) % 32768, rd := (x.wr + m) % 32768, full := s.full || decide ((x.wr + m) = 32768), step := .func (.func 89) #[] #[], ss := 1, err := .nilIface, toRead := .slice (some ⟨hb, s.rd, none⟩) (((x.wr + m) - s.rd)) ((32768 - s.rd)), hl := .pointer (some ⟨f, 5, none⟩), hd := .pointer (some ⟨f, 520, none⟩), cl := x.cl - m, cd := x.cd }) (W := x.wr + m) (k := x.k) (ls := ls) (ds := ds) (TB := [(Lnks t), (Lnks td)]) rfl rfl rfl rfl rfl rfl rfl rfl rfl H.ex hw1 (by omega) (by omega) hun1 hx.il (.inr ⟨rfl, by show x.cl - m ≤ 258; omega, hc2, by show x.cd ≤ (copyM x.h x.cd m).length; rw [copyM_length]; omega, hc4, rfl⟩) hx.held hx.nbl (by show HTail ls ds s.final x.k (B.drop x.k) (if (1 : Nat) = 0 then _ else copyM (copyM x.h x.cd m) x.cd (x.cl - m)) hF; rw [if_neg (by decide), copyM_add, show m + (x.cl - m) = x.cl by omega]; exact hx.tail) (by show 1000 * (B.length - x.k) + 2 + (x.cl - m) < mu0; omega) (fun m hm => ⟨h256, .inr ⟨(t, td), sep_pure ⟨rfl, rfl, ht, hmn, htd⟩ hm⟩⟩) hS))))))
 have hmcl : m = x.cl := by omega
 exact CT.sub .t1 (CT.skip (EX.seq (CT.goto (EX.jump0 (⟨x.i, x.b, x.nb, (x.wr + m), x.k, (x.cl - m), x.cd, (updh x.hist x.wr (xsM x.h x.cd m)), (copyM x.h x.cd m)⟩) (⟨⟨hw1, by show s.rd ≤ x.wr + m; omega, by show x.wr + m < 32768; omega, hx.held, hx.nbl, hun1, hx.il, hx.s01⟩, by show HTail ls ds s.final x.k (B.drop x.k) (copyM x.h x.cd m) hF; rw [hmcl]; exact hx.tail, by show 1000 * (B.length - x.k) + 1 ≤ mu0; omega, fun _ => ⟨by show x.cl - m = 0; omega, hc2, by show x.cd ≤ (copyM x.h x.cd m).length; rw [copyM_length]; omega, hc4⟩⟩) (by show 2 * (B.length - x.k) < 2 * (B.length - x.k) + 1; omega) (.refl _) (.cons m1 .nil)))))
end Go.Eng
namespace Go.Infl
def RunR (own : List Nat) (nl nd : Nat) (acc : List Nat) (bits : List Bool) (o : Option (List Nat × List Nat × List Bool)) : Prop :=
 (∃ lit dist rb rest, lit.length = nl ∧ dist.length = nd ∧ bits = rb ++ rest ∧ RunB own acc rb (lit ++ dist) ∧ (∀ x ∈ lit ++ dist, x ≤ 15) ∧ LOk lit 256 ∧
  ((o = some (lit, dist, rest) ∧ Full lit ∧ (Full dist ∨ ∀ x ∈ dist, x = 0)) ∨ (o = none ∧ (Over lit ∨ Full lit ∧ Over dist)))) ∨
 (o = none ∧ ∃ rb acc' k v rest, bits = rb ++ (symB own k ++ (nbits (rnBits k) v ++ rest)) ∧ RunB own acc rb acc' ∧ acc'.length < nl + nd ∧ LOk own k ∧ v < 2 ^ rnBits k ∧ (k = 16 ∧ acc' = [] ∨ (k = 16 → acc' ≠ []) ∧ nl + nd < (rnExp acc' k v).length))
def HdrR (own : List Nat) (nl nd : Nat) (bits : List Bool) (o : Option (List Nat × List Nat × List Bool)) : Prop := (Over own ∧ o = none) ∨ (Full own ∧ RunR own nl nd [] bits o)
theorem RunR.step {own acc : List Nat} {nl nd : Nat} {bits : List Bool} {o : Option (List Nat × List Nat × List Bool)} (H : RunR own nl nd acc bits o) (hl : acc.length < nl + nd) :
 ∃ k v rest, bits = symB own k ++ (nbits (rnBits k) v ++ rest) ∧ LOk own k ∧ v < 2 ^ rnBits k ∧ ((o = none ∧ k = 16 ∧ acc = []) ∨ ((k = 16 → acc ≠ []) ∧ ((o = none ∧ nl + nd < (rnExp acc k v).length) ∨ ((rnExp acc k v).length ≤ nl + nd ∧ RunR own nl nd (rnExp acc k v) rest o)))) := by
 rcases H with ⟨lit, dist, rb, rest, h1, h2, rfl, h3, h4, h5, h6⟩ | ⟨ho, rb, acc', k, v, rest, rfl, h1, h2, h3, h4, h5⟩
 ·
  have hll : (lit ++ dist).length = nl + nd := by rw [List.length_append, h1, h2]
  generalize hld : lit ++ dist = ld at h3
  cases h3 with
  | nil => rw [← hld, hll] at hl; exact absurd hl (Nat.lt_irrefl _)
  | @cons _ _ k v bs a1 a2 a3 a4 =>
   refine ⟨k, v, bs ++ rest, by simp only [List.append_assoc], a1, a2, .inr ⟨a3, .inr ⟨?_, .inl ⟨lit, dist, bs, rest, h1, h2, rfl, by rw [hld]; exact a4, h4, h5, h6⟩⟩⟩⟩
   have := a4.len
   rw [← hld, hll] at this
   exact this
 cases h1 with
 | nil =>
  refine ⟨k, v, rest, by simp, h3, h4, ?_⟩
  rcases h5 with ⟨e1, e2⟩ | ⟨e1, e2⟩
  ·
   exact .inl ⟨ho, e1, e2⟩
  exact .inr ⟨e1, .inl ⟨ho, e2⟩⟩
 | @cons _ _ k1 v1 bs a1 a2 a3 a4 =>
  refine ⟨k1, v1, bs ++ (symB own k ++ (nbits (rnBits k) v ++ rest)), by simp only [List.append_assoc], a1, a2, .inr ⟨a3, .inr ⟨?_, .inr ⟨ho, bs, acc', k, v, rest, rfl, a4, h2, h3, h4, h5⟩⟩⟩⟩
  have := a4.len
  omega
theorem RunR.fin {own acc : List Nat} {nl nd : Nat} {bits : List Bool} {o : Option (List Nat × List Nat × List Bool)} (H : RunR own nl nd acc bits o) (hl : acc.length = nl + nd) :
 ∃ lit dist, acc = lit ++ dist ∧ lit.length = nl ∧ dist.length = nd ∧ (∀ x ∈ lit ++ dist, x ≤ 15) ∧ LOk lit 256 ∧ ((o = some (lit, dist, bits) ∧ Full lit ∧ (Full dist ∨ ∀ x ∈ dist, x = 0)) ∨ (o = none ∧ (Over lit ∨ Full lit ∧ Over dist))) := by
 rcases H with ⟨lit, dist, rb, rest, h1, h2, rfl, h3, h4, h5, h6⟩ | ⟨ho, rb, acc', k, v, rest, rfl, h1, h2, h3, h4, h5⟩
 ·
  have hll : (lit ++ dist).length = nl + nd := by rw [List.length_append, h1, h2]
  generalize hld : lit ++ dist = ld at h3
  cases h3 with
  | nil => exact ⟨lit, dist, hld.symm, h1, h2, h4, h5, by simpa using h6⟩
  | @cons _ _ k v bs a1 a2 a3 a4 =>
   have := a4.len
   rw [← hld, hll, rnExp_length] at this
   have := rnMany_pos k v
   omega
 have := h1.len
 omega
theorem HdrR.good {hb : List Bool} {lit dist : List Nat} {rest : List Bool} (h : Told hb lit dist) (h1 : Full lit) (h2 : Full dist ∨ ∀ x ∈ dist, x = 0) :
 ∃ own hb0 bits, hb ++ rest = hb0 ++ bits ∧ OwnHd hb0 own lit.length dist.length ∧ HdrR own lit.length dist.length bits (some (lit, dist, rest)) := by
 obtain ⟨own, hb0, rb, rfl, a1, a2, a3, a4, a5⟩ := h
 exact ⟨own, hb0, rb ++ rest, by rw [List.append_assoc], a1, .inr ⟨a2, .inl ⟨lit, dist, rb, rest, rfl, rfl, rfl, a3, a4, a5, .inl ⟨rfl, h1, h2⟩⟩⟩⟩
theorem HdrR.over {hb : List Bool} {lit dist : List Nat} {rest : List Bool} (h : Told hb lit dist) (h1 : Over lit ∨ Full lit ∧ Over dist) :
 ∃ own hb0 bits, hb ++ rest = hb0 ++ bits ∧ OwnHd hb0 own lit.length dist.length ∧ HdrR own lit.length dist.length bits none := by
 obtain ⟨own, hb0, rb, rfl, a1, a2, a3, a4, a5⟩ := h
 exact ⟨own, hb0, rb ++ rest, by rw [List.append_assoc], a1, .inr ⟨a2, .inl ⟨lit, dist, rb, rest, rfl, rfl, rfl, a3, a4, a5, .inr ⟨rfl, h1⟩⟩⟩⟩
theorem HdrR.len {own lit dist : List Nat} {nl nd : Nat} {bits r : List Bool} (h : HdrR own nl nd bits (some (lit, dist, r))) : r.length ≤ bits.length := by
 rcases h with ⟨_, h⟩ | ⟨_, ⟨_, _, rb, rest, _, _, rfl, _, _, _, ⟨h, _⟩ | ⟨h, _⟩⟩ | ⟨h, _⟩⟩
 ·
  cases h
 ·
  cases h; rw [List.length_append]; omega
 ·
  cases h
 cases h
theorem ordr_drop {many i : Nat} {g : Nat → List Bool} (h : i < many) (h2 : many ≤ 19) : ((ordr.take many).drop i).flatMap g = g (ordr.getD i 0) ++ ((ordr.take many).drop (i + 1)).flatMap g := by
 have hl : i < (ordr.take many).length := by rw [List.length_take]; show i < min many 19; omega
 rw [List.drop_eq_getElem_cons hl, List.flatMap_cons]
 congr 1
 congr 1
 rw [List.getElem_take, List.getD_eq_getElem?_getD, List.getElem?_eq_getElem]
 rfl
theorem ordr_lt : ∀ i, i < 19 → ordr.getD i 0 < 19 := by decide
theorem ordr_take {i : Nat} (h : i < 19) : ordr.take (i + 1) = ordr.take i ++ [ordr.getD i 0] := by
 have hl : i < ordr.length := h
 rw [List.take_add_one, List.getD_eq_getElem?_getD, List.getElem?_eq_getElem hl]; rfl
theorem ordr_all : ∀ j, j < 19 → j ∈ ordr.take 19 := by decide
theorem OwnHd.bits3 {hb : List Bool} {own : List Nat} {nl nd : Nat} (H : OwnHd hb own nl nd) : ∃ many, own.length = 19 ∧ (∀ x ∈ own, x ≤ 7) ∧ 4 ≤ many ∧ many ≤ 19 ∧ (∀ i, many ≤ i → i < 19 → own.getD (ordr.getD i 0) 0 = 0) ∧ 257 ≤ nl ∧ nl ≤ 286 ∧ 1 ≤ nd ∧ nd ≤ 30 ∧
 hb = nbits 5 (nl - 257) ++ (nbits 5 (nd - 1) ++ (nbits 4 (many - 4) ++ ((ordr.take many).drop 0).flatMap (fun o => nbits 3 (own.getD o 0)))) := H
theorem own7 {own : List Nat} (h : ∀ x ∈ own, x ≤ 7) (i : Nat) : own.getD i 0 ≤ 7 := by
 rw [List.getD_eq_getElem?_getD]
 cases e : own[i]? with
 | none => exact Nat.zero_le _
 | some x => exact h x (List.mem_of_getElem? e)
theorem rn16 {k : Nat} (h : k < 16) (v : Nat) : rnBits k = 0 ∧ rnMany k v = 1 ∧ ∀ acc, rnVal acc k = k := by
 refine ⟨?_, ?_, fun acc => ?_⟩
 ·
  unfold rnBits; rw [if_neg (by omega), if_neg (by omega), if_neg (by omega)]
 ·
  unfold rnMany; rw [if_neg (by omega), if_neg (by omega), if_neg (by omega)]
 unfold rnVal; rw [if_neg (by omega), if_neg (by omega), if_neg (by omega)]
theorem rnExp16 {k : Nat} (h : k < 16) (v : Nat) (acc : List Nat) : rnExp acc k v = acc ++ [k] := by
 obtain ⟨_, h2, h3⟩ := rn16 h v
 unfold rnExp; rw [h2, h3]; rfl
theorem rnMany_ge {k : Nat} (h : 16 ≤ k) (h2 : k < 19) (v : Nat) : rnMany k v = rnMany k 0 + v ∧ rnMany k 0 ≤ 11 ∧ rnBits k ≤ 7 := by
 have : k = 16 ∨ k = 17 ∨ k = 18 := by omega
 rcases this with rfl | rfl | rfl <;> refine ⟨?_, by decide, by decide⟩ <;> simp [rnMany]
end Go.Infl
namespace Go.Eng
open Go Go.Proofs Go.Infl
def AnyB (b n : Nat) : HProp := hex fun F : Nat → Value => blk b n F
def OrdIs (G : World) : Prop := ∀ i, i < 19 → G.cell? ⟨3, i, none⟩ = some (i64 (ordr.getD i 0))
def cbf (own : List Nat) (i : Nat) (F : Nat → Value) (x : Nat) : Value := if x ∈ ordr.take i then i64 (own.getD x 0) else F x
theorem cbf_put {own : List Nat} {i : Nat} {F : Nat → Value} (h : i < 19) {v : Nat} (hv : v = own.getD (ordr.getD i 0) 0) : upd (cbf own i F) (ordr.getD i 0) (i64 v) = cbf own (i + 1) F := by
 subst hv
 funext x
 unfold upd cbf
 rw [ordr_take h]
 by_cases e : x = ordr.getD i 0
 ·
  subst e; rw [if_pos rfl, if_pos (List.mem_append_right _ (List.mem_singleton.2 rfl))]
 rw [if_neg e]
 have : x ∈ ordr.take i ++ [ordr.getD i 0] ↔ x ∈ ordr.take i := by rw [List.mem_append, List.mem_singleton]; exact ⟨fun h => h.resolve_right e, .inl⟩
 simp only [this]
theorem cbf_rd {own : List Nat} {cb : Nat} {F : Nat → Value} (h19 : own.length = 19) {G w : World} {L : List HProp} (hm : blk cb 19 (cbf own 19 F) ∈ L) (hS : Sat G w L) : ∀ j x, own[j]? = some x → w.cell? ⟨cb, 0 + j, none⟩ = some (i64 x) := fun j x hj => by
 have hl := (List.getElem?_eq_some_iff.1 hj).1
 have h := hS.cell hm (i := j) (by omega)
 unfold cbf at h
 rw [if_pos (ordr_all j (by omega)), List.getD_eq_getElem?_getD, hj] at h
 rw [Nat.zero_add]
 exact h
theorem cbf_nil {own : List Nat} {F : Nat → Value} : F = cbf own 0 F := by funext x; exact (if_neg (by simp)).symm
def bbf (acc : List Nat) (F : Nat → Value) (x : Nat) : Value := if x < acc.length then i64 (acc.getD x 0) else F x
theorem bbf_put {acc : List Nat} {F : Nat → Value} {v : Nat} : upd (bbf acc F) acc.length (i64 v) = bbf (acc ++ [v]) F := by
 funext x
 unfold upd bbf
 rw [List.length_append, List.length_singleton, List.getD_eq_getElem?_getD, List.getD_eq_getElem?_getD]
 by_cases e : x = acc.length
 ·
  subst e; rw [if_pos rfl, if_pos (by omega), List.getElem?_append_right (Nat.le_refl _), Nat.sub_self]; rfl
 rw [if_neg e]
 by_cases h : x < acc.length
 ·
  rw [if_pos h, if_pos (by omega), List.getElem?_append_left h]
 rw [if_neg h, if_neg (by omega)]
theorem bbf_put2 {acc : List Nat} {F : Nat → Value} {i v : Nat} (h : i = acc.length) : upd (bbf acc F) i (i64 v) = bbf (acc ++ [v]) F := by subst h; exact bbf_put
theorem bbf_nil {acc : List Nat} {F : Nat → Value} (h : acc = []) : F = bbf acc F := by subst h; funext x; exact (if_neg (Nat.not_lt_zero _)).symm
theorem bbf_get {acc : List Nat} {F : Nat → Value} {x : Nat} (h : x < acc.length) : bbf acc F x = i64 (acc.getD x 0) := if_pos h
theorem bbf_rd {lit dist : List Nat} {bb lo n : Nat} {F : Nat → Value} (hn : (lit ++ dist).length ≤ n) (hl : lit.length = lo) {G w : World} {L : List HProp} (hm : blk bb n (bbf (lit ++ dist) F) ∈ L) (hS : Sat G w L) : ∀ j x, dist[j]? = some x → w.cell? ⟨bb, lo + j, none⟩ = some (i64 x) := fun j x hj => by
 have hl2 := (List.getElem?_eq_some_iff.1 hj).1
 rw [List.length_append] at hn
 have h := hS.cell hm (i := lo + j) (by omega)
 rw [bbf_get (by rw [List.length_append]; omega), List.getD_eq_getElem?_getD, List.getElem?_append_right (by omega), show lo + j - lit.length = j by omega, hj] at h
 exact h
theorem bbf_rd0 {lit dist : List Nat} {bb n : Nat} {F : Nat → Value} (hn : (lit ++ dist).length ≤ n) {G w : World} {L : List HProp} (hm : blk bb n (bbf (lit ++ dist) F) ∈ L) (hS : Sat G w L) : ∀ j x, lit[j]? = some x → w.cell? ⟨bb, 0 + j, none⟩ = some (i64 x) := fun j x hj => by
 have hl2 := (List.getElem?_eq_some_iff.1 hj).1
 rw [List.length_append] at hn
 have h := hS.cell hm (i := j) (by omega)
 rw [bbf_get (by rw [List.length_append]; omega), List.getD_eq_getElem?_getD, List.getElem?_append_left hl2, hj] at h
 rw [Nat.zero_add]; exact h
theorem bbf_lit {lit dist : List Nat} {F : Nat → Value} {x : Nat} (h : x < lit.length) : bbf (lit ++ dist) F x = i64 (lit.getD x 0) := by
 rw [bbf_get (by rw [List.length_append]; omega), List.getD_eq_getElem?_getD, List.getElem?_append_left h, List.getD_eq_getElem?_getD]
theorem TA.takegu {P : Program} {G : World} {ρ : Env} {n : Nat} {L : List HProp} {Q : Exit → Act → World → Prop} {ops : Array Oper} {fuel : Nat} {listed : Array Bool} {d : Nat} {op : Op} {ty : TypeId} {pos : String} {af : Array Edge} {j g : Nat} {b want : Bool} (i : Nat)
 (hi : ops[i]? = some ⟨some d, op, ty, pos, af, some (j, want)⟩) (hs : Region.noSelect ops = true) (hf : Region.free .any ops listed i = true) (hr : (Region.ready .any ops listed).contains i = true) (hQ : NP Q)
 (hb : (g, .bool b) ∈ ρ) (hw : (b == want) = false) (k : TA P Q ops fuel (listed.setIfInBounds i true) ((d, undef) :: ρ) n G L) (hj : (ops[j]?).bind (·.dst) = some g) (hc : chk d n ρ = true := by rfl) : TA P Q ops (fuel + 1) listed ρ n G L :=
 fun w a hS ha => wpAny_take hi hs hf hr (fun c a w h => (hQ c _ w h).elim) (.inr ⟨by rw [wanted_of hj hb ha]; exact hw, rfl⟩) (k w _ hS (ha.put hc))
theorem any2 {G w : World} {A B : HProp} {L : List HProp} {bb cb n m : Nat} {F F' : Nat → Value} (h : Sat G w (A :: B :: blk bb n F :: blk cb m F' :: L)) : Sat G w (A :: B :: AnyB bb n :: AnyB cb m :: L) := by
 have h1 := (h.perm p3).imp (B := AnyB cb m) fun _ hm => ⟨_, hm⟩
 have h2 := (h1.perm p3).imp (B := AnyB bb n) fun _ hm => ⟨_, hm⟩
 exact (h2.perm p3).perm p3
def setH1 (H T : Nat → Value) (j : Nat) : Value := if j < 515 then T j else H j
def setH2 (H T : Nat → Value) (j : Nat) : Value := if 515 ≤ j ∧ j < 1030 then T (j - 515) else H j
theorem D_h1 (s : DS) : D s = tabf (D s) 5 s.H := by
 funext j; unfold tabf
 split
 ·
  rename_i h; have := D_H s (j := j - 5) (by omega); rw [show 5 + (j - 5) = j by omega] at this; exact this
 rfl
theorem D_h2 (s : DS) : D s = tabf (D s) 520 (fun j => s.H (515 + j)) := by
 funext j; unfold tabf
 split
 ·
  rename_i h; have := D_H s (j := j - 5) (by omega); rw [show 5 + (j - 5) = j by omega] at this; rw [this]; congr 1; omega
 rfl
theorem D_off {s : DS} {H : Nat → Value} {j : Nat} (h : ¬ (5 ≤ j ∧ j < 1035)) : D { s with H := H } j = D s j := by
 unfold D dfun
 by_cases h1 : j < 5
 ·
  rw [if_pos h1, if_pos h1]
 rw [if_neg h1, if_neg h1, if_neg (by omega), if_neg (by omega)]
theorem D_set1 (s : DS) (T : Nat → Value) : tabf (D s) 5 T = D { s with H := setH1 s.H T } := by
 funext j
 by_cases hj : 5 ≤ j ∧ j < 1035
 ·
  have e := D_H { s with H := setH1 s.H T } (j := j - 5) (by omega)
  have e2 := D_H s (j := j - 5) (by omega)
  rw [show 5 + (j - 5) = j by omega] at e e2
  rw [e]; show _ = setH1 s.H T (j - 5); unfold tabf setH1
  by_cases h : j < 520
  ·
   rw [if_pos (by omega), if_pos (by omega)]
  rw [if_neg (by omega), if_neg (by omega)]; exact e2
 rw [D_off hj]; unfold tabf; rw [if_neg (by omega)]
theorem D_set2 (s : DS) (T : Nat → Value) : tabf (D s) 520 T = D { s with H := setH2 s.H T } := by
 funext j
 by_cases hj : 5 ≤ j ∧ j < 1035
 ·
  have e := D_H { s with H := setH2 s.H T } (j := j - 5) (by omega)
  have e2 := D_H s (j := j - 5) (by omega)
  rw [show 5 + (j - 5) = j by omega] at e e2
  rw [e]; show _ = setH2 s.H T (j - 5); unfold tabf setH2
  by_cases h : 520 ≤ j
  ·
   rw [if_pos (by omega), if_pos (by omega)]; congr 1
  rw [if_neg (by omega), if_neg (by omega)]; exact e2
 rw [D_off hj]; unfold tabf; rw [if_neg (by omega)]
theorem D_min (s : DS) (v : Value) : upd (D s) 5 v = D { s with H := upd s.H 0 v } := by
 funext j
 by_cases hj : 5 ≤ j ∧ j < 1035
 ·
  have e := D_H { s with H := upd s.H 0 v } (j := j - 5) (by omega)
  have e2 := D_H s (j := j - 5) (by omega)
  rw [show 5 + (j - 5) = j by omega] at e e2
  rw [e]; show _ = upd s.H 0 v (j - 5); unfold upd
  by_cases h : j = 5
  ·
   rw [if_pos h, if_pos (by omega)]
  rw [if_neg h, if_neg (by omega)]; exact e2
 rw [D_off hj]; unfold upd; rw [if_neg (by omega)]
theorem TOk.ext {T T' : Nat → Value} (h : TOk T) (e : ∀ j, j < 515 → T' j = T j) : TOk T' := by
 rcases h with ⟨m, h1, h2⟩ | h
 ·
  exact .inl ⟨m, h1, by rw [e 0 (by decide)]; exact h2⟩
 exact .inr fun j hj => by rw [e j hj]; exact h j hj
theorem TDok.ext {ls : List Nat} {t : TD} {T T' : Nat → Value} (h : TDok ls t T) (e : ∀ j, j < 515 → T' j = T j) : TDok ls t T' := ⟨fun j hj => by rw [e j hj]; exact h.cells j hj, h.tab, h.full, h.m15⟩
theorem TDok.tok {ls : List Nat} {t : TD} {T : Nat → Value} (h : TDok ls t T) (h0 : t.mn ≠ 0) : TOk T := .inl ⟨t.mn, h0, h.cells 0 (by decide)⟩
theorem tok0 : TOk (hc 0 (fun _ => 0) (.slice none 0 0) 0) := .inr fun _ _ => rfl
theorem HOk.set1 {H T : Nat → Value} (h : HOk H) (ht : TOk T) : HOk (setH1 H T) := ⟨ht.ext fun j hj => if_pos hj, h.2.ext fun j hj => if_neg (by omega)⟩
theorem HOk.set2 {H T : Nat → Value} (h : HOk H) (ht : TOk T) : HOk (setH2 H T) := ⟨h.1.ext fun j hj => if_neg (by omega), ht.ext fun j hj => by show (if _ then _ else _) = _; rw [if_pos (by omega), Nat.add_sub_cancel_left]⟩
theorem TDok.min {ls : List Nat} {t : TD} {H : Nat → Value} (h : TDok ls t H) {x : Nat} (hx : x ≤ 15) : TDok ls { t with mn := x } (upd H 0 (i64 x)) := by
 refine ⟨fun j hj => ?_, h.tab, h.full, hx⟩
 have := h.cells j hj
 unfold upd
 by_cases e : j = 0
 ·
  subst e; rfl
 rw [if_neg e, this]; unfold hc; rw [if_neg e, if_neg e]
theorem HOk.min {H : Nat → Value} (h : HOk H) {x : Nat} (hx : x ≠ 0) : HOk (upd H 0 (i64 x)) := ⟨.inl ⟨x, hx, rfl⟩, h.2.ext fun j hj => if_neg (by omega)⟩
section
variable {f : Nat} {s : DS} (hH : HOk s.H) (A : HProp) (ls : List Nat) (lb lo lc : Nat) (hR : ∀ {G w : World} {L : List HProp}, A ∈ L → Sat G w L → ∀ j x, ls[j]? = some x → w.cell? ⟨lb, lo + j, none⟩ = some (i64 x)) (hls : ls.length ≤ 1000) (h15 : ∀ x ∈ ls, x ≤ 15)
include hH hR hls h15
theorem t111a {G : World} {R : List HProp} {w : World} (hF : Full ls) (hS : Sat G w (blk f 1054 (D s) :: A :: R)) :
 CallsR Tryz.prog 111 #[.pointer (some ⟨f, 5, none⟩), .slice (some ⟨lb, lo, none⟩) ls.length lc] w (fun v w' => ∃ (t : TD) (H' : Nat → Value), v = .bool true ∧ TDok ls t H' ∧ (t.mn ∈ ls ∧ t.mn ≠ 0 ∧ ∀ k, LOk ls k → t.mn ≤ ls.getD k 0) ∧ HOk H' ∧ Sat G w' (blk f 1054 (D { s with H := H' }) :: A :: Lnks t :: R)) :=
 (t111 (by decide) hH.1 A ls lb lo lc hR hls h15 hF (hS.imp (blk_eq rfl (D_h1 s)))).mono fun v w' ⟨t, e, ht, hm, hS⟩ =>
  ⟨t, _, e, ht.ext fun j hj => if_pos hj, hm, hH.set1 (ht.tok hm.2.1), hS.imp (blk_eq rfl (D_set1 s _))⟩
theorem t111a_over {G : World} {R : List HProp} {w : World} (hF : Over ls) (hS : Sat G w (blk f 1054 (D s) :: A :: R)) :
 CallsR Tryz.prog 111 #[.pointer (some ⟨f, 5, none⟩), .slice (some ⟨lb, lo, none⟩) ls.length lc] w (fun v w' => ∃ H' : Nat → Value, v = .bool false ∧ HOk H' ∧ Sat G w' (blk f 1054 (D { s with H := H' }) :: A :: R)) :=
 (t111_over (by decide) hH.1 A ls lb lo lc hR hls h15 hF (hS.imp (blk_eq rfl (D_h1 s)))).mono fun v w' ⟨e, hS⟩ => ⟨_, e, hH.set1 tok0, hS.imp (blk_eq rfl (D_set1 s _))⟩
theorem t111b {G : World} {R : List HProp} {w : World} (hF : Full ls) (hS : Sat G w (blk f 1054 (D s) :: A :: R)) :
 CallsR Tryz.prog 111 #[.pointer (some ⟨f, 520, none⟩), .slice (some ⟨lb, lo, none⟩) ls.length lc] w (fun v w' => ∃ (t : TD) (H' : Nat → Value), v = .bool true ∧ TDok ls t (fun j => H' (515 + j)) ∧ (∀ k, LOk ls k → t.mn ≤ ls.getD k 0) ∧ HOk H' ∧ (∀ j, j < 515 → H' j = s.H j) ∧ Sat G w' (blk f 1054 (D { s with H := H' }) :: A :: Lnks t :: R)) :=
 (t111 (by decide) hH.2 A ls lb lo lc hR hls h15 hF (hS.imp (blk_eq rfl (D_h2 s)))).mono fun v w' ⟨t, e, ht, hm, hS⟩ =>
  ⟨t, _, e, ht.ext fun j hj => by show (if _ then _ else _) = _; rw [if_pos (by omega), Nat.add_sub_cancel_left], hm.2.2, hH.set2 (ht.tok hm.2.1), fun j hj => if_neg (by omega), hS.imp (blk_eq rfl (D_set2 s _))⟩
theorem t111b_z {G : World} {R : List HProp} {w : World} (hF : ∀ x ∈ ls, x = 0) (hS : Sat G w (blk f 1054 (D s) :: A :: R)) :
 CallsR Tryz.prog 111 #[.pointer (some ⟨f, 520, none⟩), .slice (some ⟨lb, lo, none⟩) ls.length lc] w (fun v w' => ∃ H' : Nat → Value, v = .bool true ∧ HOk H' ∧ (∀ j, j < 515 → H' j = s.H j) ∧ Sat G w' (blk f 1054 (D { s with H := H' }) :: A :: R)) :=
 (t111_z (by decide) hH.2 A ls lb lo lc hR hls h15 hF (hS.imp (blk_eq rfl (D_h2 s)))).mono fun v w' ⟨e, hS⟩ => ⟨_, e, hH.set2 tok0, fun j hj => if_neg (by omega), hS.imp (blk_eq rfl (D_set2 s _))⟩
theorem t111b_over {G : World} {R : List HProp} {w : World} (hF : Over ls) (hS : Sat G w (blk f 1054 (D s) :: A :: R)) :
 CallsR Tryz.prog 111 #[.pointer (some ⟨f, 520, none⟩), .slice (some ⟨lb, lo, none⟩) ls.length lc] w (fun v w' => ∃ H' : Nat → Value, v = .bool false ∧ HOk H' ∧ Sat G w' (blk f 1054 (D { s with H := H' }) :: A :: R)) :=
 (t111_over (by decide) hH.2 A ls lb lo lc hR hls h15 hF (hS.imp (blk_eq rfl (D_h2 s)))).mono fun v w' ⟨e, hS⟩ => ⟨_, e, hH.set2 tok0, hS.imp (blk_eq rfl (D_set2 s _))⟩
end
end Go.Eng
namespace Go.Eng
open Go Go.Proofs Go.Infl
theorem flat3_length {g : Nat → Nat} : ∀ {l : List Nat}, (l.flatMap (fun o => nbits 3 (g o))).length = 3 * l.length
 | [] => rfl
 | x :: l => by rw [List.flatMap_cons, List.length_append, nbits_length, flat3_length (l := l), List.length_cons]; omega
theorem t90 {G : World} {R : List HProp} {w : World} {bb cb f r i k nl nd : Nat} {B hb0 bits : List Bool} {own : List Nat} {o : Option (List Nat × List Nat × List Bool)} {s : DS} (hO : OrdIs G) (hBl : B.length < 1099511627776) (hh : OwnHd hb0 own nl nd) (hH : HdrR own nl nd bits o)
 (hd : B.drop k = hb0 ++ bits) (hk : Held B k i s.b s.nb) (hnb : s.nb ≤ 7) (hil : i ≤ (pack B).length) (hkB : k ≤ B.length) (hro : s.roff = i) (hr : s.r = .iface 49 (.pointer (some ⟨r, 0, none⟩))) (hbits : s.bits = .pointer (some ⟨bb, 0, none⟩)) (hcb : s.cbits = .pointer (some ⟨cb, 0, none⟩)) (hHO : HOk s.H)
 (hS : Sat G w (blk f 1054 (D s) :: Br r B i :: AnyB bb 316 :: AnyB cb 19 :: R)) : CallsR Tryz.prog 90 #[.pointer (some ⟨f, 0, none⟩)] w (fun v w' => ∃ (i' b' nb' : Nat) (H' : Nat → Value), i' ≤ (pack B).length ∧ HOk H' ∧
  ((o = none ∧ ∃ z : Int, v = .iface 121 (.int .i64 z) ∧ Sat G w' (blk f 1054 (D { s with r := .iface 49 (.pointer (some ⟨r, 0, none⟩)), roff := i', b := b', nb := nb', H := H', bits := .pointer (some ⟨bb, 0, none⟩), cbits := .pointer (some ⟨cb, 0, none⟩) }) :: Br r B i' :: AnyB bb 316 :: AnyB cb 19 :: R)) ∨
   (∃ (lit dist : List Nat) (rest : List Bool) (t td : TD) (k' : Nat), o = some (lit, dist, rest) ∧ v = .nilIface ∧ k' ≤ B.length ∧ B.drop k' = rest ∧ Held B k' i' b' nb' ∧ nb' ≤ 7 ∧ LOk lit 256 ∧ TDok lit t H' ∧ t.mn = lit.getD 256 0 ∧ ((TDok dist td (fun j => H' (515 + j)) ∧ ∀ q, LOk dist q → td.mn ≤ dist.getD q 0) ∨ ∀ y ∈ dist, y = 0) ∧
    Sat G w' (blk f 1054 (D { s with r := .iface 49 (.pointer (some ⟨r, 0, none⟩)), roff := i', b := b', nb := nb', H := H', bits := .pointer (some ⟨bb, 0, none⟩), cbits := .pointer (some ⟨cb, 0, none⟩) }) :: Br r B i' :: AnyB bb 316 :: AnyB cb 19 :: Lnks t :: Lnks td :: R)))) := by
 obtain ⟨many, h19, h7, hm4, hm19, hz, hnl1, hnl2, hnd1, hnd2, rfl⟩ := hh.bits3
 simp only [List.append_assoc] at hd
 have hd1 := drop_app hd
 rw [nbits_length] at hd1
 have hd2 := drop_app hd1
 rw [nbits_length] at hd2
 have hd3 := drop_app hd2
 rw [nbits_length] at hd3
 have hlen := congrArg List.length hd
 simp only [List.length_drop, List.length_append, nbits_length] at hlen
 have hpl := pack_length B
 have hlo : ordr.length = 19 := rfl
 have hfl3 : (((ordr.take many).drop 0).flatMap (fun o => nbits 3 (own.getD o 0))).length = 3 * many := by
  rw [List.drop_zero, flat3_length, List.length_take, hlo, Nat.min_eq_left hm19]
 obtain ⟨acc0, hacc0⟩ : ∃ a : List Nat, a = [] := ⟨_, rfl⟩
 have hal0 : acc0.length = 0 := by rw [hacc0]; rfl
 have hs : s = { s with r := .iface 49 (.pointer (some ⟨r, 0, none⟩)), roff := i, bits := .pointer (some ⟨bb, 0, none⟩), cbits := .pointer (some ⟨cb, 0, none⟩) } := by cases s; simp_all
 replace hS := hS.D hs
 obtain ⟨Fb, hS⟩ := Sat.ex (hS.perm p2)
 replace hS := hS.imp (blk_eq rfl (bbf_nil (F := Fb) hacc0))
 obtain ⟨Fc, hS⟩ := Sat.ex (hS.perm p3)
 replace hS := hS.imp (blk_eq rfl (cbf_nil (own := own) (F := Fc)))
 refine calls_in (n := 340) [(0, (.pointer (some ⟨f, 0, none⟩)))] Tryz.func90 rfl rfl hS args1 ?_
 refine CT.q (TL.val (r_asg .c) (TL.e (CT.seq (CT.block (CT.perm p1 (CT.perm p3 (CT.perm p3 (CT.loop (X := Nat × Nat × Nat) (fun gx => [(0, (.pointer (some ⟨f, 0, none⟩)))]) (fun gx => (blk f 1054 (D { s with r := .iface 49 (.pointer (some ⟨r, 0, none⟩)), roff := gx.1, b := gx.2.1, nb := gx.2.2, bits := .pointer (some ⟨bb, 0, none⟩), cbits := .pointer (some ⟨cb, 0, none⟩) })) :: Br r B gx.1 :: blk bb 316 (bbf acc0 Fb) :: blk cb 19 (cbf own 0 Fc) :: R) (fun gx => Held B k gx.1 gx.2.1 gx.2.2 ∧ NB 0 14 gx.2.2 ∧ gx.1 ≤ (pack B).length) (fun gx => 14 - gx.2.2) ((i, s.b, s.nb)) (⟨hk, .of (by omega), hil⟩) (.refl _) (.cons m1 .nil) ?_))))))))
 rintro ⟨i2, b2, n2⟩ ⟨hheld2, hnb2, hib2⟩
 replace hheld2 : Held B k i2 b2 n2 := hheld2
 replace hnb2 : NB 0 14 n2 := hnb2
 replace hib2 : i2 ≤ (pack B).length := hib2
 have hn2b : n2 ≤ 22 := hnb2.le (by decide) (by omega)
 have hb2 : b2 < 4294967296 := Nat.lt_of_lt_of_le hheld2.lt (Nat.pow_le_pow_right (by decide) (show n2 ≤ 32 from Nat.le_trans hn2b (by decide)))
 refine CT.seq (CT.q (TL.m m0 (TL.c m0 (TL.f 4 fo_103_4 m0 (TL.val (r_ld (v := (u64 n2)) Tryz.isAgg90 m0 (.t m0) (by decide) (Dget_nb _)) (TL.val (n_lss n2 14 (.t m0) .c rfl rfl) (TL.sub (.hd .t4) (TL.e (CT.ifd m0 (fun c23 => ?_) (fun c23 => ?_))))))))))
 ·
  have hlt2 : n2 < 14 := by omega
  have hbyte2 := byte_ok hheld2 hlt2 (show k + 14 ≤ B.length by omega)
  refine CT.sub .t1 (CT.skip (EX.seq (CT.block (CT.q (TL.m m0 (TL.perm p1 (TL.perm p1 (TL.call (r_call ce_86 (.cons (.t m0) .nil)) (fun w hS => t86 f r i2 B { s with r := .iface 49 (.pointer (some ⟨r, 0, none⟩)), roff := i2, b := b2, nb := n2, bits := .pointer (some ⟨bb, 0, none⟩), cbits := .pointer (some ⟨cb, 0, none⟩) } hbyte2.2 (by omega) (by show i2 < 9223372036854775807; omega) (by show b2 < 4294967296; omega) (by show n2 ≤ 24; omega) hS) ?_))))))))
  rintro z25 w25 ⟨hz25, hS⟩
  replace hz25 : z25 = .nilIface := hz25
  subst hz25
  replace hS : Sat G w25 (blk f 1054 (D { s with r := .iface 49 (.pointer (some ⟨r, 0, none⟩)), roff := i2 + 1, b := b2 ||| byteAt B i2 * 2 ^ n2, nb := n2 + 8, bits := .pointer (some ⟨bb, 0, none⟩), cbits := .pointer (some ⟨cb, 0, none⟩) }) :: Br r B (i2 + 1) :: blk bb 316 (bbf acc0 Fb) :: blk cb 19 (cbf own 0 Fc) :: R) := hS
  refine TW.at hS ?_
  refine TL.a m0 (TL.sub (.hd .t2) (TL.q (TL.m m0 (TL.val (r_nen Tryz.underlying82 (.t m0)) (TL.sub (.hd .t1) (TL.e (CT.iff_ m0 ?_)))))))
  exact CT.sub .t1 (CT.skip (EX.bnormal (EX.again ((i2 + 1, b2 ||| byteAt B i2 * 2 ^ n2, n2 + 8)) (⟨hheld2.more hbyte2.1, hnb2.more hlt2, hbyte2.2⟩) (by show 14 - (n2 + 8) < 14 - n2; omega) (.refl _) (.cons m1 .nil))))
 have hge2 : 14 ≤ n2 := by omega
 have hhA := hheld2.take (m := 5) (by omega)
 have hhB := hhA.take (m := 5) (by omega)
 have hhC := hhB.take (m := 4) (by omega)
 have hq1 := Nat.div_le_self b2 (2 ^ 5)
 have hq2 := Nat.div_le_self (b2 / 2 ^ 5) (2 ^ 5)
 rw [show n2 - 5 - 5 - 4 = n2 - 14 by omega] at hhC
 refine CT.sub .t1 (CT.exit (EX.then_exit (EX.then_exit (EX.out (EX.q (TL.m m0 (TL.c m0 (TL.f 3 fo_103_3 m0 (TL.val (r_ld (v := (u32 b2)) Tryz.isAgg89 m0 (.t m0) (by decide) (Dget_b _)) (TL.val (n_and b2 31 4294967296 (.t m0) .c rfl rfl (by omega) (by omega)) (TL.sub (.eq m0 (congrArg (fun z : Nat => Value.int .u32 (z : Int)) (hheld2.and (m := 5) (by omega) (by omega) hd)) (.cons m1 (.cons m2 (.cons m3 (.cons m4 (.cons m5 .nil)))))) (TL.val (n_conv ((nl - 257)) 9223372036854775808 ⟨_, Tryz.underlying89⟩ Tryz.underlying3 (.t m0) rfl (by omega)) (TL.val (n_add ((nl - 257)) 257 9223372036854775808 (.t m0) .c rfl rfl (by omega)) (TL.a m0 (TL.sub (.hd .t7) (TL.sub (.eq m0 (congrArg (fun z : Nat => Value.int .i64 (z : Int)) (show nl - 257 + 257 = nl by omega)) (.cons m1 .nil)) (TL.e (CT.seq (CT.q (TL.m m0 (TL.val (n_gtr nl 286 (.t m0) .c rfl rfl) (TL.sub (.hd .t1) (TL.e (CT.ifd m0 (fun c37 => ?_) (fun c37 => ?_)))))))))))))))))))))))))
 ·
  exfalso; omega
 refine CT.sub .t1 (CT.skip (EX.q (TL.m m1 (TL.c m0 (TL.f 3 fo_103_3 m0 (TL.val (r_ld (v := (u32 b2)) Tryz.isAgg89 m0 (.t m0) (by decide) (Dget_b _)) (TL.val (n_shr b2 5 (.t m0) .c rfl rfl (by decide)) (TL.c m4 (TL.f 3 fo_103_3 m0 (TL.s (r_st (F' := D { s with r := .iface 49 (.pointer (some ⟨r, 0, none⟩)), roff := i2, b := b2 / 2 ^ 5, nb := n2, bits := .pointer (some ⟨bb, 0, none⟩), cbits := .pointer (some ⟨cb, 0, none⟩) }) Tryz.sizeOf89 (Dsat_b ((b2 / 2 ^ 5))) a0 (.t m0) (.t m2) (by decide)) (TL.sub .t7 (TL.q (TL.m m1 (TL.c m0 (TL.f 3 fo_103_3 m0 (TL.val (r_ld (v := (u32 (b2 / 2 ^ 5))) Tryz.isAgg89 m0 (.t m0) (by decide) (Dget_b _)) (TL.val (n_and ((b2 / 2 ^ 5)) 31 4294967296 (.t m0) .c rfl rfl (by omega) (by omega)) (TL.sub (.eq m0 (congrArg (fun z : Nat => Value.int .u32 (z : Int)) (hhA.and (m := 5) (by omega) (by omega) hd1)) (.cons m1 (.cons m2 (.cons m3 (.cons m4 (.cons m5 (.cons m6 .nil))))))) (TL.val (n_conv ((nd - 1)) 9223372036854775808 ⟨_, Tryz.underlying89⟩ Tryz.underlying3 (.t m0) rfl (by omega)) (TL.val (n_add ((nd - 1)) 1 9223372036854775808 (.t m0) .c rfl rfl (by omega)) (TL.a m0 (TL.sub (.hd .t7) (TL.sub (.eq m0 (congrArg (fun z : Nat => Value.int .i64 (z : Int)) (show nd - 1 + 1 = nd by omega)) (.cons m1 (.cons m2 .nil))) (TL.e (CT.seq (CT.q (TL.m m0 (TL.val (n_gtr nd 30 (.t m0) .c rfl rfl) (TL.sub (.hd .t1) (TL.e (CT.ifd m0 (fun c58 => ?_) (fun c58 => ?_))))))))))))))))))))))))))))))))
 ·
  exfalso; omega
 refine CT.sub .t1 (CT.skip (EX.q (TL.m m2 (TL.c m0 (TL.f 3 fo_103_3 m0 (TL.val (r_ld (v := (u32 (b2 / 2 ^ 5))) Tryz.isAgg89 m0 (.t m0) (by decide) (Dget_b _)) (TL.val (n_shr ((b2 / 2 ^ 5)) 5 (.t m0) .c rfl rfl (by decide)) (TL.c m4 (TL.f 3 fo_103_3 m0 (TL.s (r_st (F' := D { s with r := .iface 49 (.pointer (some ⟨r, 0, none⟩)), roff := i2, b := (b2 / 2 ^ 5) / 2 ^ 5, nb := n2, bits := .pointer (some ⟨bb, 0, none⟩), cbits := .pointer (some ⟨cb, 0, none⟩) }) Tryz.sizeOf89 (Dsat_b (((b2 / 2 ^ 5) / 2 ^ 5))) a0 (.t m0) (.t m2) (by decide)) (TL.sub .t7 (TL.fold (A' := (blk f 1054 (D { s with r := .iface 49 (.pointer (some ⟨r, 0, none⟩)), roff := i2, b := b2 / 2 ^ 5 / 2 ^ 5, nb := n2, bits := .pointer (some ⟨bb, 0, none⟩), cbits := .pointer (some ⟨cb, 0, none⟩) }))) a0 (D_eq rfl) ?_))))))))))))
 refine TL.q (TL.m m2 (TL.c m0 (TL.f 3 fo_103_3 m0 (TL.val (r_ld (v := (u32 (b2 / 2 ^ 5 / 2 ^ 5))) Tryz.isAgg89 m0 (.t m0) (by decide) (Dget_b _)) (TL.val (n_and ((b2 / 2 ^ 5 / 2 ^ 5)) 15 4294967296 (.t m0) .c rfl rfl (by omega) (by omega)) (TL.sub (.eq m0 (congrArg (fun z : Nat => Value.int .u32 (z : Int)) (hhB.and (m := 4) (by omega) (by omega) hd2)) (.cons m1 (.cons m2 (.cons m3 (.cons m4 (.cons m5 (.cons m6 (.cons m7 .nil)))))))) (TL.val (n_conv ((many - 4)) 9223372036854775808 ⟨_, Tryz.underlying89⟩ Tryz.underlying3 (.t m0) rfl (by omega)) (TL.val (n_add ((many - 4)) 4 9223372036854775808 (.t m0) .c rfl rfl (by omega)) (TL.a m0 (TL.sub (.hd .t7) (TL.sub (.eq m0 (congrArg (fun z : Nat => Value.int .i64 (z : Int)) (show many - 4 + 4 = many by omega)) (.cons m1 (.cons m2 (.cons m3 .nil)))) (TL.q (TL.m m3 (TL.c m0 (TL.f 3 fo_103_3 m0 (TL.val (r_ld (v := (u32 (b2 / 2 ^ 5 / 2 ^ 5))) Tryz.isAgg89 m0 (.t m0) (by decide) (Dget_b _)) (TL.val (n_shr ((b2 / 2 ^ 5 / 2 ^ 5)) 4 (.t m0) .c rfl rfl (by decide)) (TL.c m4 (TL.f 3 fo_103_3 m0 (TL.s (r_st (F' := D { s with r := .iface 49 (.pointer (some ⟨r, 0, none⟩)), roff := i2, b := (b2 / 2 ^ 5 / 2 ^ 5) / 2 ^ 4, nb := n2, bits := .pointer (some ⟨bb, 0, none⟩), cbits := .pointer (some ⟨cb, 0, none⟩) }) Tryz.sizeOf89 (Dsat_b (((b2 / 2 ^ 5 / 2 ^ 5) / 2 ^ 4))) a0 (.t m0) (.t m2) (by decide)) (TL.sub .t7 (TL.fold (A' := (blk f 1054 (D { s with r := .iface 49 (.pointer (some ⟨r, 0, none⟩)), roff := i2, b := b2 / 2 ^ 5 / 2 ^ 5 / 2 ^ 4, nb := n2, bits := .pointer (some ⟨bb, 0, none⟩), cbits := .pointer (some ⟨cb, 0, none⟩) }))) a0 (D_eq rfl) ?_))))))))))))))))))))))
 refine TL.q (TL.m m3 (TL.c m0 (TL.f 4 fo_103_4 m0 (TL.val (r_ld (v := (u64 n2)) Tryz.isAgg90 m0 (.t m0) (by decide) (Dget_nb _)) (TL.val (n_sub n2 14 18446744073709551616 (.t m0) .c rfl rfl (by omega) (by omega)) (TL.c m4 (TL.f 4 fo_103_4 m0 (TL.s (r_st (F' := D { s with r := .iface 49 (.pointer (some ⟨r, 0, none⟩)), roff := i2, b := b2 / 2 ^ 5 / 2 ^ 5 / 2 ^ 4, nb := n2 - 14, bits := .pointer (some ⟨bb, 0, none⟩), cbits := .pointer (some ⟨cb, 0, none⟩) }) Tryz.sizeOf90 (Dsat_nb ((n2 - 14))) a0 (.t m0) (.t m2) (by decide)) (TL.sub .t7 (TL.e (CT.seq (CT.q (TL.val (r_asg .c) (TL.e (CT.block (CT.loop (X := Nat × Nat × Nat × Nat) (fun gx => [(7, (i64 gx.1)), (6, (i64 many)), (5, (i64 nd)), (4, (i64 nl)), (0, (.pointer (some ⟨f, 0, none⟩)))]) (fun gx => (blk f 1054 (D { s with r := .iface 49 (.pointer (some ⟨r, 0, none⟩)), roff := gx.2.1, b := gx.2.2.1, nb := gx.2.2.2, bits := .pointer (some ⟨bb, 0, none⟩), cbits := .pointer (some ⟨cb, 0, none⟩) })) :: Br r B gx.2.1 :: blk bb 316 (bbf acc0 Fb) :: blk cb 19 (cbf own gx.1 Fc) :: R) (fun gx => Held B (k + 5 + 5 + 4 + 3 * gx.1) gx.2.1 gx.2.2.1 gx.2.2.2 ∧ gx.2.2.2 ≤ 7 ∧ gx.2.1 ≤ (pack B).length ∧ gx.1 ≤ many ∧ B.drop (k + 5 + 5 + 4 + 3 * gx.1) = ((ordr.take many).drop gx.1).flatMap (fun o => nbits 3 (own.getD o 0)) ++ bits) (fun gx => many - gx.1) ((0, i2, (b2 / 2 ^ 5 / 2 ^ 5 / 2 ^ 4), n2 - 14)) (⟨hhC, (by show n2 - 14 ≤ 7; have := hnb2.take; omega), hib2, Nat.zero_le _, hd3⟩) (.refl _) (.sl 0 5 rfl) ?_))))))))))))))))
 rintro ⟨j, i3, b3, n3⟩ ⟨hJ1, hJ2, hJ3, hJ4, hJ5⟩
 replace hJ1 : Held B (k + 5 + 5 + 4 + 3 * j) i3 b3 n3 := hJ1
 replace hJ2 : n3 ≤ 7 := hJ2
 replace hJ3 : i3 ≤ (pack B).length := hJ3
 replace hJ4 : j ≤ many := hJ4
 replace hJ5 : B.drop (k + 5 + 5 + 4 + 3 * j) = ((ordr.take many).drop j).flatMap (fun o => nbits 3 (own.getD o 0)) ++ bits := hJ5
 have hol := own7 h7 (ordr.getD j 0)
 refine CT.seq (CT.q (TL.m m0 (TL.m m2 (TL.val (n_lss j many (.t m1) (.t m0) rfl rfl) (TL.sub (.hd .t2) (TL.e (CT.ifd m0 (fun c94 => ?_) (fun c94 => ?_))))))))
 ·
  have hd4 : B.drop (k + 5 + 5 + 4 + 3 * j) = nbits 3 (own.getD (ordr.getD j 0) 0) ++ (((ordr.take many).drop (j + 1)).flatMap (fun o => nbits 3 (own.getD o 0)) ++ bits) := by rw [hJ5, ordr_drop (g := (fun o => nbits 3 (own.getD o 0))) c94 hm19, List.append_assoc]
  have hd5 := drop_app hd4
  rw [nbits_length] at hd5
  have hl4 := congrArg List.length hd4
  rw [List.length_drop, List.length_append, nbits_length] at hl4
  refine CT.sub .t1 (CT.skip (EX.seq (CT.seq (CT.block (CT.seq (CT.block (CT.loop (X := Nat × Nat × Nat) (fun gx => [(7, (i64 j)), (6, (i64 many)), (5, (i64 nd)), (4, (i64 nl)), (0, (.pointer (some ⟨f, 0, none⟩)))]) (fun gx => (blk f 1054 (D { s with r := .iface 49 (.pointer (some ⟨r, 0, none⟩)), roff := gx.1, b := gx.2.1, nb := gx.2.2, bits := .pointer (some ⟨bb, 0, none⟩), cbits := .pointer (some ⟨cb, 0, none⟩) })) :: Br r B gx.1 :: blk bb 316 (bbf acc0 Fb) :: blk cb 19 (cbf own j Fc) :: R) (fun gx => Held B (k + 5 + 5 + 4 + 3 * j) gx.1 gx.2.1 gx.2.2 ∧ NB 0 3 gx.2.2 ∧ gx.1 ≤ (pack B).length) (fun gx => 3 - gx.2.2) ((i3, b3, n3)) (⟨hJ1, .of (by omega), hJ3⟩) (.refl _) (.sl 0 5 rfl) ?_)))))))
  rintro ⟨i5, b5, n5⟩ ⟨hheld5, hnb5, hib5⟩
  replace hheld5 : Held B (k + 5 + 5 + 4 + 3 * j) i5 b5 n5 := hheld5
  replace hnb5 : NB 0 3 n5 := hnb5
  replace hib5 : i5 ≤ (pack B).length := hib5
  have hn5b : n5 ≤ 22 := hnb5.le (by decide) (by omega)
  have hb5 : b5 < 4294967296 := Nat.lt_of_lt_of_le hheld5.lt (Nat.pow_le_pow_right (by decide) (show n5 ≤ 32 from Nat.le_trans hn5b (by decide)))
  refine CT.seq (CT.q (TL.m m4 (TL.c m0 (TL.f 4 fo_103_4 m0 (TL.val (r_ld (v := (u64 n5)) Tryz.isAgg90 m0 (.t m0) (by decide) (Dget_nb _)) (TL.val (n_lss n5 3 (.t m0) .c rfl rfl) (TL.sub (.hd .t4) (TL.e (CT.ifd m0 (fun c101 => ?_) (fun c101 => ?_))))))))))
  ·
   have hlt5 : n5 < 3 := by omega
   have hbyte5 := byte_ok hheld5 hlt5 (show k + 5 + 5 + 4 + 3 * j + 3 ≤ B.length by omega)
   refine CT.sub .t1 (CT.skip (EX.seq (CT.block (CT.q (TL.m m4 (TL.perm p1 (TL.perm p1 (TL.call (r_call ce_86 (.cons (.t m0) .nil)) (fun w hS => t86 f r i5 B { s with r := .iface 49 (.pointer (some ⟨r, 0, none⟩)), roff := i5, b := b5, nb := n5, bits := .pointer (some ⟨bb, 0, none⟩), cbits := .pointer (some ⟨cb, 0, none⟩) } hbyte5.2 (by omega) (by show i5 < 9223372036854775807; omega) (by show b5 < 4294967296; omega) (by show n5 ≤ 24; omega) hS) ?_))))))))
   rintro z103 w103 ⟨hz103, hS⟩
   replace hz103 : z103 = .nilIface := hz103
   subst hz103
   replace hS : Sat G w103 (blk f 1054 (D { s with r := .iface 49 (.pointer (some ⟨r, 0, none⟩)), roff := i5 + 1, b := b5 ||| byteAt B i5 * 2 ^ n5, nb := n5 + 8, bits := .pointer (some ⟨bb, 0, none⟩), cbits := .pointer (some ⟨cb, 0, none⟩) }) :: Br r B (i5 + 1) :: blk bb 316 (bbf acc0 Fb) :: blk cb 19 (cbf own j Fc) :: R) := hS
   refine TW.at hS ?_
   refine TL.a m0 (TL.sub (.hd .t2) (TL.q (TL.m m0 (TL.val (r_nen Tryz.underlying82 (.t m0)) (TL.sub (.hd .t1) (TL.e (CT.iff_ m0 ?_)))))))
   exact CT.sub .t1 (CT.skip (EX.bnormal (EX.again ((i5 + 1, b5 ||| byteAt B i5 * 2 ^ n5, n5 + 8)) (⟨hheld5.more hbyte5.1, hnb5.more hlt5, hbyte5.2⟩) (by show 3 - (n5 + 8) < 3 - n5; omega) (.refl _) (.sl 1 5 rfl))))
  have hge5 : 3 ≤ n5 := by omega
  refine CT.sub .t1 (CT.exit (EX.then_exit (EX.then_exit (EX.out (EX.seq (CT.seq (CT.draw 15 fm (by kernel_rfl) ?_)))))))
  refine TS.val (r_move (.t m4)) ?_
  refine TS.val (r_nil (.t m0)) ?_
  refine TS.val (r_fa (off' := 1036) fo_103_8 (.t m0)) ?_
  refine TS.val (r_ld (v := (.pointer (some ⟨cb, 0, none⟩))) Tryz.isAgg96 m0 (.t m0) (by decide) (Dget_cbits _)) ?_
  refine TS.val (r_move (.t m4)) ?_
  refine TS.val (r_iaa (i := j) (off' := j) Tryz.underlying106 Tryz.sizeOf3 .g (.t m0) rfl (by omega) (by omega)) ?_
  refine TS.val (r_ldc (v := (i64 (ordr.getD j 0))) Tryz.isAgg3 (.t m0) (fun w hS => hS.base_some (hO j (by omega)))) ?_
  refine TS.val (r_move (.t m11)) ?_
  refine TS.val (r_nil (.t m0)) ?_
  refine TS.val (r_fa (off' := 3) fo_103_3 (.t m0)) ?_
  refine TS.val (r_ld (v := (u32 b5)) Tryz.isAgg89 m0 (.t m0) (by decide) (Dget_b _)) ?_
  refine TS.val (n_and b5 7 4294967296 (.t m0) .c rfl rfl (by omega) (by omega)) ?_
  refine TS.sub (ρ' := [(118, (u32 (own.getD (ordr.getD j 0) 0))), (117, (u32 b5)), (116, (.pointer (some ⟨f, 3, none⟩))), (115, (.pointer (some ⟨f, 0, none⟩))), (114, (.pointer (some ⟨f, 0, none⟩))), (113, (i64 (ordr.getD j 0))), (112, (.pointer (some ⟨3, j, none⟩))), (111, (i64 j)), (110, (.pointer (some ⟨cb, 0, none⟩))), (109, (.pointer (some ⟨f, 1036, none⟩))), (108, (.pointer (some ⟨f, 0, none⟩))), (107, (.pointer (some ⟨f, 0, none⟩))), (7, (i64 j)), (6, (i64 many)), (5, (i64 nd)), (4, (i64 nl)), (0, (.pointer (some ⟨f, 0, none⟩)))]) (.eq m0 (congrArg (fun z : Nat => Value.int .u32 (z : Int)) (hheld5.and (m := 3) (by omega) (by omega) hd4)) (.sl 1 16 rfl)) ?_
  refine TS.val (n_conv ((own.getD (ordr.getD j 0) 0)) 9223372036854775808 ⟨_, Tryz.underlying89⟩ Tryz.underlying3 (.t m0) rfl (by omega)) ?_
  refine TS.val (r_nil (.t m9)) ?_
  refine TS.val (r_iaa (i := (ordr.getD j 0)) (off' := (ordr.getD j 0)) Tryz.underlying106 Tryz.sizeOf3 (.t m0) (.t m7) rfl (ordr_lt j (by omega)) (by omega)) ?_
  refine TS.nil ?_
  exact TL.s (r_st (F' := cbf own (j + 1) Fc) Tryz.sizeOf3 (cbf_put (by omega) rfl) a3 (.t m0) (.t m2) (ordr_lt j (by omega))) (TL.sub .t15 (TL.q (TL.m m4 (TL.c m0 (TL.f 3 fo_103_3 m0 (TL.val (r_ld (v := (u32 b5)) Tryz.isAgg89 m0 (.t m0) (by decide) (Dget_b _)) (TL.val (n_shr b5 3 (.t m0) .c rfl rfl (by decide)) (TL.c m4 (TL.f 3 fo_103_3 m0 (TL.s (r_st (F' := D { s with r := .iface 49 (.pointer (some ⟨r, 0, none⟩)), roff := i5, b := b5 / 2 ^ 3, nb := n5, bits := .pointer (some ⟨bb, 0, none⟩), cbits := .pointer (some ⟨cb, 0, none⟩) }) Tryz.sizeOf89 (Dsat_b ((b5 / 2 ^ 3))) a0 (.t m0) (.t m2) (by decide)) (TL.sub .t7 (TL.e (CT.region (TL.m m4 (TL.c m0 (TL.f 4 fo_103_4 m0 (TL.val (r_ld (v := (u64 n5)) Tryz.isAgg90 m0 (.t m0) (by decide) (Dget_nb _)) (TL.val (n_sub n5 3 18446744073709551616 (.t m0) .c rfl rfl (by omega) (by omega)) (TL.c m4 (TL.f 4 fo_103_4 m0 (TL.s (r_st (F' := D { s with r := .iface 49 (.pointer (some ⟨r, 0, none⟩)), roff := i5, b := b5 / 2 ^ 3, nb := n5 - 3, bits := .pointer (some ⟨bb, 0, none⟩), cbits := .pointer (some ⟨cb, 0, none⟩) }) Tryz.sizeOf90 (Dsat_nb ((n5 - 3))) a0 (.t m0) (.t m2) (by decide)) (TL.sub .t7 (TL.nil (EX.bnormal (EX.seq (CT.region (TL.m m0 (TL.val (n_add j 1 9223372036854775808 (.t m0) .c rfl rfl (by omega)) (TL.rm .h2 (TL.a m0 (TL.sub (.hd .t2) (TL.nil (EX.again ((j + 1, i5, b5 / 2 ^ 3, n5 - 3)) (⟨by have := hheld5.take (m := 3) (by omega); rwa [show k + 5 + 5 + 4 + 3 * j + 3 = k + 5 + 5 + 4 + 3 * (j + 1) by omega] at this, by show n5 - 3 ≤ 7; have := hnb5.take; omega, hib5, (show j + 1 ≤ many by omega), by show B.drop (k + 5 + 5 + 4 + 3 * (j + 1)) = _; rw [show k + 5 + 5 + 4 + 3 * (j + 1) = k + 5 + 5 + 4 + 3 * j + 3 by omega]; exact hd5⟩) (by show many - (j + 1) < many - j; omega) (.refl _) (.eq m0 (congrArg (fun z : Nat => Value.int .i64 (z : Int)) (show ((j + 1) : Nat) = j + 1 by omega)) (.sl 1 4 rfl)))))))))))))))))))))))))))))))))))
 have hjm : j = many := by omega
 refine CT.sub .t1 (CT.exit (EX.then_exit (EX.then_exit (EX.out (EX.seq (CT.seq (CT.q (TL.m m1 (TL.a m0 (TL.sub (.hd .t1) (TL.e (CT.block (CT.fold (A' := (blk cb 19 (cbf own many Fc))) a3 (blk_eq rfl (by rw [hjm])) (CT.loop (X := Nat) (fun gx => [(9, (i64 gx)), (6, (i64 many)), (5, (i64 nd)), (4, (i64 nl)), (0, (.pointer (some ⟨f, 0, none⟩)))]) (fun gx => (blk f 1054 (D { s with r := .iface 49 (.pointer (some ⟨r, 0, none⟩)), roff := i3, b := b3, nb := n3, bits := .pointer (some ⟨bb, 0, none⟩), cbits := .pointer (some ⟨cb, 0, none⟩) })) :: Br r B i3 :: blk bb 316 (bbf acc0 Fb) :: blk cb 19 (cbf own gx Fc) :: R) (fun gx => many ≤ gx ∧ gx ≤ 19) (fun gx => 19 - gx) many (⟨Nat.le_refl _, hm19⟩) (.refl _) (.cons m0 (.sl 2 4 rfl)) ?_))))))))))))))
 rintro j2 ⟨hK1, hK2⟩
 refine CT.seq (CT.q (TL.m m0 (TL.val (n_lss j2 19 (.t m0) .c rfl rfl) (TL.sub (.hd .t1) (TL.e (CT.ifd m0 (fun c138 => ?_) (fun c138 => ?_)))))))
 ·
  refine CT.sub .t1 (CT.skip (EX.seq (CT.seq (CT.block (CT.draw 9 fm (by kernel_rfl) ?_)))))
  refine TS.val (r_move (.t m4)) ?_
  refine TS.val (r_nil (.t m0)) ?_
  refine TS.val (r_fa (off' := 1036) fo_103_8 (.t m0)) ?_
  refine TS.val (r_ld (v := (.pointer (some ⟨cb, 0, none⟩))) Tryz.isAgg96 m0 (.t m0) (by decide) (Dget_cbits _)) ?_
  refine TS.val (r_move (.t m4)) ?_
  refine TS.val (r_iaa (i := j2) (off' := j2) Tryz.underlying106 Tryz.sizeOf3 .g (.t m0) rfl (by omega) (by omega)) ?_
  refine TS.val (r_ldc (v := (i64 (ordr.getD j2 0))) Tryz.isAgg3 (.t m0) (fun w hS => hS.base_some (hO j2 (by omega)))) ?_
  refine TS.val (r_nil (.t m3)) ?_
  refine TS.val (r_iaa (i := (ordr.getD j2 0)) (off' := (ordr.getD j2 0)) Tryz.underlying106 Tryz.sizeOf3 (.t m0) (.t m1) rfl (ordr_lt j2 (by omega)) (by omega)) ?_
  refine TS.nil ?_
  exact TL.s (r_st (F' := cbf own (j2 + 1) Fc) Tryz.sizeOf3 (cbf_put (by omega) (hz j2 (by omega) (by omega)).symm) a3 (.t m0) .c (ordr_lt j2 (by omega))) (TL.sub .t9 (TL.nil (EX.bnormal (EX.seq (CT.region (TL.m m0 (TL.val (n_add j2 1 9223372036854775808 (.t m0) .c rfl rfl (by omega)) (TL.rm .h2 (TL.a m0 (TL.sub (.hd .t2) (TL.nil (EX.again (j2 + 1) (⟨by omega, by omega⟩) (by omega) (.refl _) (.eq m0 (congrArg (fun z : Nat => Value.int .i64 (z : Int)) (show ((j2 + 1) : Nat) = j2 + 1 by omega)) (.sl 1 4 rfl))))))))))))))
 refine CT.fold (A' := (blk cb 19 (cbf own 19 Fc))) a3 (blk_eq rfl (by rw [show j2 = 19 by omega])) (CT.sub .t1 (CT.exit (EX.then_exit (EX.then_exit (EX.out (EX.seq (CT.seq (CT.seq ?_))))))))
 rcases hH with ⟨hov, ho⟩ | ⟨hfu, hrr⟩
 ·
  refine CT.draw 9 fm (by kernel_rfl) ?_
  refine TS.val (r_move (.t m4)) ?_
  refine TS.val (r_nil (.t m0)) ?_
  refine TS.val (r_fa (off' := 5) fo_103_5 (.t m0)) ?_
  refine TS.val (r_move (.t m7)) ?_
  refine TS.val (r_nil (.t m0)) ?_
  refine TS.val (r_fa (off' := 1036) fo_103_8 (.t m0)) ?_
  refine TS.val (r_ld (v := (.pointer (some ⟨cb, 0, none⟩))) Tryz.isAgg96 m0 (.t m0) (by decide) (Dget_cbits _)) ?_
  refine TS.val (r_nil (.t m0)) ?_
  refine TS.val (r_slicea (off' := 0) (m := 19) (c' := 19) Tryz.underlying106 Tryz.sizeOf3 (.t m0) (.so (j := 0) .c rfl) .no (by (try simp) <;> omega) (by (try simp) <;> omega) (by simp) (by simp) (by simp)) ?_
  refine TS.nil ?_
  refine TL.sub (ρ' := [(158, (.slice (some ⟨cb, 0, none⟩) own.length 19)), (157, (.pointer (some ⟨cb, 0, none⟩))), (156, (.pointer (some ⟨cb, 0, none⟩))), (155, (.pointer (some ⟨f, 1036, none⟩))), (154, (.pointer (some ⟨f, 0, none⟩))), (153, (.pointer (some ⟨f, 0, none⟩))), (152, (.pointer (some ⟨f, 5, none⟩))), (151, (.pointer (some ⟨f, 0, none⟩))), (150, (.pointer (some ⟨f, 0, none⟩))), (9, (i64 j2)), (6, (i64 many)), (5, (i64 nd)), (4, (i64 nl)), (0, (.pointer (some ⟨f, 0, none⟩)))]) (.eq m0 (by rw [h19]) (.sl 1 13 rfl)) (TL.perm p3 (TL.perm p1 (TL.call (r_call ce_111 (.cons (.t m6) (.cons (.t m0) .nil))) (fun w hS => t111a_over (s := { s with r := .iface 49 (.pointer (some ⟨r, 0, none⟩)), roff := i3, b := b3, nb := n3, bits := .pointer (some ⟨bb, 0, none⟩), cbits := .pointer (some ⟨cb, 0, none⟩) }) hHO (blk cb 19 (cbf own 19 Fc)) own cb 0 19 (cbf_rd h19) (by omega) (fun x hx => Nat.le_trans (h7 x hx) (by decide)) hov hS) ?_)))
  rintro _ w159 ⟨H1, rfl, hHO1, hS⟩
  refine TW.at hS ?_
  refine TL.val (r_notf (.t m0)) (TL.sub (.hd .t10) (TL.e (CT.ift m0 ?_)))
  exact CT.sub .t1 (CT.q (TL.m m4 (TL.c m0 (TL.f 2 fo_103_2 m0 (TL.val (r_ld (v := (i64 i3)) Tryz.isAgg2 m0 (.t m0) (by decide) (Dget_roff _)) (TL.val (r_mki Tryz.underlying121 (.t m0)) (TL.a m0 (TL.sub (.hd .t5) (TL.e (CT.ret (EX.then_ret (EX.perm p1 (EX.perm p3 (EX.perm p3 (EX.perm p3 (EX.end_ (.inl rfl) (res1 Tryz.results90 m0) (fun _ hS => ⟨i3, b3, n3, H1, hJ3, hHO1, .inl ⟨ho, _, rfl, any2 hS⟩⟩)))))))))))))))))
 refine CT.draw 9 fm (by kernel_rfl) ?_
 refine TS.val (r_move (.t m4)) ?_
 refine TS.val (r_nil (.t m0)) ?_
 refine TS.val (r_fa (off' := 5) fo_103_5 (.t m0)) ?_
 refine TS.val (r_move (.t m7)) ?_
 refine TS.val (r_nil (.t m0)) ?_
 refine TS.val (r_fa (off' := 1036) fo_103_8 (.t m0)) ?_
 refine TS.val (r_ld (v := (.pointer (some ⟨cb, 0, none⟩))) Tryz.isAgg96 m0 (.t m0) (by decide) (Dget_cbits _)) ?_
 refine TS.val (r_nil (.t m0)) ?_
 refine TS.val (r_slicea (off' := 0) (m := 19) (c' := 19) Tryz.underlying106 Tryz.sizeOf3 (.t m0) (.so (j := 0) .c rfl) .no (by (try simp) <;> omega) (by (try simp) <;> omega) (by simp) (by simp) (by simp)) ?_
 refine TS.nil ?_
 refine TL.sub (ρ' := [(158, (.slice (some ⟨cb, 0, none⟩) own.length 19)), (157, (.pointer (some ⟨cb, 0, none⟩))), (156, (.pointer (some ⟨cb, 0, none⟩))), (155, (.pointer (some ⟨f, 1036, none⟩))), (154, (.pointer (some ⟨f, 0, none⟩))), (153, (.pointer (some ⟨f, 0, none⟩))), (152, (.pointer (some ⟨f, 5, none⟩))), (151, (.pointer (some ⟨f, 0, none⟩))), (150, (.pointer (some ⟨f, 0, none⟩))), (9, (i64 j2)), (6, (i64 many)), (5, (i64 nd)), (4, (i64 nl)), (0, (.pointer (some ⟨f, 0, none⟩)))]) (.eq m0 (by rw [h19]) (.sl 1 13 rfl)) (TL.perm p3 (TL.perm p1 (TL.call (r_call ce_111 (.cons (.t m6) (.cons (.t m0) .nil))) (fun w hS => t111a (s := { s with r := .iface 49 (.pointer (some ⟨r, 0, none⟩)), roff := i3, b := b3, nb := n3, bits := .pointer (some ⟨bb, 0, none⟩), cbits := .pointer (some ⟨cb, 0, none⟩) }) hHO (blk cb 19 (cbf own 19 Fc)) own cb 0 19 (cbf_rd h19) (by omega) (fun x hx => Nat.le_trans (h7 x hx) (by decide)) hfu hS) ?_)))
 rintro _ w159 ⟨t1, H1, rfl, ht1, ⟨hmn1, hmn2, hmn3⟩, hHO1, hS⟩
 refine TW.at hS ?_
 refine TL.val (r_nott (.t m0)) (TL.sub (.hd .t10) (TL.e (CT.iff_ m0 ?_)))
 refine CT.sub .t1 (CT.skip (EX.seq (CT.seq (CT.q (TL.m m3 (TL.m m3 (TL.val (n_add nl nd 9223372036854775808 (.t m1) (.t m0) rfl rfl (by omega)) (TL.val (r_asg .c) (TL.a m1 (TL.sub (.hd (.hd .t3)) (TL.e (CT.block ?_))))))))))))
 have hJ6 : B.drop (k + 5 + 5 + 4 + 3 * j) = bits := by rw [hJ5, List.drop_of_length_le (by rw [List.length_take]; omega)]; rfl
 have hkB2 : k + 5 + 5 + 4 + 3 * j ≤ B.length := by omega
 refine CT.perm p2 (CT.perm p2 (CT.perm p4 (CT.perm p4 (CT.perm p4 (CT.loop (X := List Nat × Nat × Nat × Nat × Nat) (fun gx => [(10, (i64 ((gx.1).length))), (11, (i64 (nl + nd))), (6, (i64 many)), (5, (i64 nd)), (4, (i64 nl)), (0, (.pointer (some ⟨f, 0, none⟩)))]) (fun gx => (blk f 1054 (D { s with r := .iface 49 (.pointer (some ⟨r, 0, none⟩)), roff := gx.2.2.1, b := gx.2.2.2.1, nb := gx.2.2.2.2, H := H1, bits := .pointer (some ⟨bb, 0, none⟩), cbits := .pointer (some ⟨cb, 0, none⟩) })) :: Br r B gx.2.2.1 :: blk bb 316 (bbf gx.1 Fb) :: blk cb 19 (cbf own 19 Fc) :: Lnks t1 :: R) (fun gx => Held B gx.2.1 gx.2.2.1 gx.2.2.2.1 gx.2.2.2.2 ∧ gx.2.2.2.2 ≤ 7 ∧ gx.2.2.1 ≤ (pack B).length ∧ (gx.1).length ≤ nl + nd ∧ gx.2.1 ≤ B.length ∧ RunR own nl nd gx.1 (B.drop gx.2.1) o) (fun gx => nl + nd - (gx.1).length) ((acc0, k + 5 + 5 + 4 + 3 * j, i3, b3, n3)) (⟨hJ1, hJ2, hJ3, by show acc0.length ≤ nl + nd; omega, hkB2, by rw [hacc0]; show RunR own nl nd [] (B.drop (k + 5 + 5 + 4 + 3 * j)) o; rw [hJ6]; exact hrr⟩) (.refl _) (.eq m1 (congrArg (fun z : Nat => Value.int .i64 (z : Int)) (show (0 : Nat) = acc0.length by omega)) (.cons m0 (.sl 3 4 rfl))) ?_)))))
 rintro ⟨acc, kk, i6, b6, n6⟩ ⟨hI1, hI2, hI3, hI4, hI5, hI6⟩
 replace hI1 : Held B kk i6 b6 n6 := hI1
 replace hI2 : n6 ≤ 7 := hI2
 replace hI3 : i6 ≤ (pack B).length := hI3
 replace hI4 : acc.length ≤ nl + nd := hI4
 replace hI5 : kk ≤ B.length := hI5
 replace hI6 : RunR own nl nd acc (B.drop kk) o := hI6
 refine CT.seq (CT.q (TL.m m0 (TL.m m2 (TL.val (n_lss acc.length ((nl + nd)) (.t m1) (.t m0) rfl rfl) (TL.sub (.hd .t2) (TL.e (CT.ifd m0 (fun c171 => ?_) (fun c171 => ?_))))))))
 ·
  obtain ⟨x, v, rest, hbx, hok, hv, hcs⟩ := hI6.step c171
  have hlx := congrArg List.length hbx
  simp only [List.length_drop, List.length_append, symB_length, nbits_length] at hlx
  have hx18 : x < 19 := by have := hok.1; omega
  have hlk1 := hok.2.1; have hlk2 := hok.2.2
  have hmx := hmn3 x hok
  have hdr := drop_app hbx
  rw [symB_length] at hdr
  refine CT.sub .t1 (CT.skip (EX.seq (CT.block (CT.q (TL.m m5 (TL.m m6 (TL.c m0 (TL.f 5 fo_103_5 m0 (TL.perm p4 (TL.perm p3 (TL.perm p3 (TL.perm p3 (TL.call (r_call ce_112 (.cons (.t m3) (.cons (.t m0) .nil))) (fun w hS => t112 (s := { s with r := .iface 49 (.pointer (some ⟨r, 0, none⟩)), roff := i6, b := b6, nb := n6, H := H1, bits := .pointer (some ⟨bb, 0, none⟩), cbits := .pointer (some ⟨cb, 0, none⟩) }) (k := x) (at_ := kk) trd_h1 ht1 hok hbx hI1 (by show n6 ≤ 22; omega) (by omega) hBl hI3 rfl rfl hS) ?_)))))))))))))
  rintro _ w177 ⟨i7, b7, n7, rfl, hheld7, hn7, hil7, hS⟩
  replace hS : Sat G w177 (blk f 1054 (D { s with r := .iface 49 (.pointer (some ⟨r, 0, none⟩)), roff := i7, b := b7, nb := n7, H := H1, bits := .pointer (some ⟨bb, 0, none⟩), cbits := .pointer (some ⟨cb, 0, none⟩) }) :: Br r B i7 :: blk bb 316 (bbf acc Fb) :: Lnks t1 :: blk cb 19 (cbf own 19 Fc) :: R) := hS
  refine TW.at hS ?_
  replace hn7 : n7 + own.getD x 0 ≤ max n6 (max t1.mn (own.getD x 0) + 7) := hn7
  have hn77 : n7 ≤ 7 := by omega
  refine TL.m m0 (TL.val (r_ext (.t m0)) (TL.val (r_ext (.t m1)) (TL.a m1 (TL.a m1 (TL.sub (.hd (.hd .t8)) (TL.e (CT.seq (CT.q (TL.m m0 (TL.val (r_nen Tryz.underlying82 (.t m0)) (TL.sub (.hd .t1) (TL.e (CT.iff_ m0 ?_)))))))))))))
  refine CT.sub .t1 (CT.skip (EX.seq (CT.seq (CT.q (TL.m m1 (TL.val (n_lss x 16 (.t m0) .c rfl rfl) (TL.sub (.hd .t1) (TL.e (CT.ifd m0 (fun c184 => ?_) (fun c184 => ?_))))))))))
  ·
   have hr1 := (rn16 c184 v).1
   have hdr2 : B.drop (kk + own.getD x 0) = rest := by rw [hdr, hr1]; rfl
   have hal : (acc ++ [x]).length = acc.length + 1 := by rw [List.length_append]; rfl
   have hnx : RunR own nl nd (acc ++ [x]) rest o := by rcases hcs with ⟨_, h, _⟩ | ⟨_, ⟨_, h⟩ | ⟨h1, h2⟩⟩ <;> first | omega | (rw [rnExp16 c184, hal] at h; omega) | (rw [rnExp16 c184] at h2; exact h2)
   exact CT.sub .t1 (CT.q (TL.m m7 (TL.c m0 (TL.f 1035 fo_103_7 m0 (TL.val (r_ld (v := (.pointer (some ⟨bb, 0, none⟩))) Tryz.isAgg95 m0 (.t m0) (by decide) (Dget_bits _)) (TL.m m6 (TL.m m6 (TL.c m2 (TL.val (r_iaa (i := acc.length) (off' := acc.length) Tryz.underlying105 Tryz.sizeOf3 (.t m0) (.t m2) rfl (by omega) (by omega)) (TL.s (r_st (F' := bbf (acc ++ [x]) Fb) Tryz.sizeOf3 (bbf_put2 rfl) a2 (.t m0) (.t m2) (by omega)) (TL.sub .t8 (TL.q (TL.m m2 (TL.val (n_add acc.length 1 9223372036854775808 (.t m0) .c rfl rfl (by omega)) (TL.rm .h4 (TL.a m0 (TL.sub (.hd .t2) (TL.e (CT.exit (EX.then_exit (EX.out (EX.perm p3 (EX.perm p4 (EX.perm p4 (EX.perm p4 (EX.perm p4 (EX.again ((acc ++ [x], kk + own.getD x 0, i7, b7, n7)) (⟨hheld7, hn77, hil7, by show (acc ++ [x]).length ≤ nl + nd; omega, (by show kk + own.getD x 0 ≤ B.length; omega), by show RunR own nl nd (acc ++ [x]) (B.drop (kk + own.getD x 0)) o; rw [hdr2]; exact hnx⟩) (by show nl + nd - (acc ++ [x]).length < nl + nd - acc.length; omega) (.refl _) (.eq m0 (congrArg (fun z : Nat => Value.int .i64 (z : Int)) (show ((acc.length + 1) : Nat) = (acc ++ [x]).length by omega)) (.sl 3 5 rfl)))))))))))))))))))))))))))))
  have hge : 16 ≤ x := by omega
  obtain ⟨hrm, hrm0, hrb⟩ := rnMany_ge hge hx18 v
  refine CT.sub .t1 (CT.skip (EX.q (TL.val (r_asg .c) (TL.q (TL.val (r_asg .c) (TL.q (TL.val (r_asg .c) (TL.e (CT.cut (X := Unit) (fun gx => [(16, (i64 (rnVal acc x))), (15, (u64 (rnBits x))), (14, (i64 (rnMany x 0))), (13, .nilIface), (12, (i64 x)), (10, (i64 acc.length)), (11, (i64 (nl + nd))), (6, (i64 many)), (5, (i64 nd)), (4, (i64 nl)), (0, (.pointer (some ⟨f, 0, none⟩)))]) (fun gx => (blk f 1054 (D { s with r := .iface 49 (.pointer (some ⟨r, 0, none⟩)), roff := i7, b := b7, nb := n7, H := H1, bits := .pointer (some ⟨bb, 0, none⟩), cbits := .pointer (some ⟨cb, 0, none⟩) })) :: Br r B i7 :: blk bb 316 (bbf acc Fb) :: blk cb 19 (cbf own 19 Fc) :: Lnks t1 :: R) (fun gx => x = 16 → acc ≠ []) ?_ ?_)))))))))
  ·
   refine CT.q (TL.m m4 (TL.e (CT.block (CT.q (TL.val (n_eql x 16 (.t m0) .c rfl rfl) (TL.a m0 (TL.sub (.hd .t1) (TL.e (CT.ifd m0 (fun c197 => ?_) (fun c197 => ?_))))))))))
   ·
    obtain ⟨hq1, hq2, hq3⟩ : rnMany x 0 = 3 ∧ rnBits x = 2 ∧ rnVal acc x = acc.getD (acc.length - 1) 0 := by rw [c197]; exact ⟨rfl, rfl, rfl⟩
    refine CT.sub .t1 (CT.q (TL.rm .h3 (TL.val (r_asg .c) (TL.q (TL.rm .h3 (TL.val (r_asg .c) (TL.e (CT.seq (CT.q (TL.m m6 (TL.val (n_eql acc.length 0 (.t m0) .c rfl rfl) (TL.sub (.hd .t1) (TL.e (CT.ifd m0 (fun c200 => ?_) (fun c200 => ?_)))))))))))))))
    ·
     have ho : o = none := by rcases hcs with ⟨h, _⟩ | ⟨h, _⟩ <;> first | exact h | exact absurd (List.length_eq_zero_iff.1 c200) (h c197)
     refine CT.sub .t1 (CT.q (TL.m m11 (TL.c m0 (TL.f 2 fo_103_2 m0 (TL.val (r_ld (v := (i64 i7)) Tryz.isAgg2 m0 (.t m0) (by decide) (Dget_roff _)) (TL.val (r_mki Tryz.underlying121 (.t m0)) (TL.a m0 (TL.sub (.hd .t5) (TL.e (CT.ret (EX.then_ret (EX.bret (EX.then_ret (EX.bret (EX.then_ret (EX.bret (EX.then_ret (EX.perm p3 (EX.conv (fun _ h => h.tail) ?_)))))))))))))))))))
     exact EX.perm p3 (EX.perm p3 (EX.perm p3 (EX.perm p3 (EX.end_ (.inl rfl) (res1 Tryz.results90 m0) (fun _ hS => ⟨i7, b7, n7, H1, hil7, hHO1, .inl ⟨ho, _, rfl, any2 hS⟩⟩)))))
    exact CT.sub .t1 (CT.skip (EX.seq (CT.region (TL.m m11 (TL.c m0 (TL.f 1035 fo_103_7 m0 (TL.val (r_ld (v := (.pointer (some ⟨bb, 0, none⟩))) Tryz.isAgg95 m0 (.t m0) (by decide) (Dget_bits _)) (TL.m m10 (TL.val (n_sub acc.length 1 9223372036854775808 (.t m0) .c rfl rfl (by omega) (by omega)) (TL.c m2 (TL.val (r_iaa (i := (acc.length - 1)) (off' := (acc.length - 1)) Tryz.underlying105 Tryz.sizeOf3 (.t m0) (.t m1) rfl (by omega) (by omega)) (TL.val (r_ld (v := (i64 ((acc).getD ((acc.length - 1)) 0))) Tryz.isAgg3 m2 (.t m0) (by omega) (bbf_get (by omega))) (TL.rm .h12 (TL.a m0 (TL.sub (.hd .t9) (TL.nil (EX.bnormal (EX.perm p3 (EX.perm p4 (EX.perm p4 (EX.perm p4 (EX.perm p4 (EX.meet () (fun _ h => by rw [h] at c200; exact c200 rfl) (.refl _) (.eq m0 (congrArg (fun z : Nat => Value.int .i64 (z : Int)) (show (((acc).getD ((acc.length - 1)) 0) : Nat) = (rnVal acc x) by omega)) (.eq m1 (congrArg (fun z : Nat => Value.int .u64 (z : Int)) (show (2 : Nat) = (rnBits x) by omega)) (.eq m2 (congrArg (fun z : Nat => Value.int .i64 (z : Int)) (show (3 : Nat) = (rnMany x 0) by omega)) (.sl 4 8 rfl)))))))))))))))))))))))))))
   refine CT.sub .t1 (CT.q (TL.val (n_eql x 17 (.t m0) .c rfl rfl) (TL.a m0 (TL.sub (.hd .t1) (TL.e (CT.ifd m0 (fun c215 => ?_) (fun c215 => ?_)))))))
   ·
    obtain ⟨hq1, hq2, hq3⟩ : rnMany x 0 = 3 ∧ rnBits x = 3 ∧ rnVal acc x = 0 := by rw [c215]; exact ⟨rfl, rfl, rfl⟩
    exact CT.sub .t1 (CT.q (TL.rm .h3 (TL.val (r_asg .c) (TL.q (TL.rm .h3 (TL.val (r_asg .c) (TL.e (CT.region (TL.rm .h3 (TL.val (r_asg .c) (TL.nil (EX.bnormal (EX.perm p3 (EX.perm p4 (EX.perm p4 (EX.perm p4 (EX.perm p4 (EX.meet () (fun h => absurd h (by omega)) (.refl _) (.eq m0 (congrArg (fun z : Nat => Value.int .i64 (z : Int)) (show (0 : Nat) = (rnVal acc x) by omega)) (.eq m1 (congrArg (fun z : Nat => Value.int .u64 (z : Int)) (show (3 : Nat) = (rnBits x) by omega)) (.eq m2 (congrArg (fun z : Nat => Value.int .i64 (z : Int)) (show (3 : Nat) = (rnMany x 0) by omega)) (.sl 4 8 rfl))))))))))))))))))))))
   refine CT.sub .t1 (CT.q (TL.val (n_eql x 18 (.t m0) .c rfl rfl) (TL.a m0 (TL.sub (.hd .t1) (TL.e (CT.ifd m0 (fun c217 => ?_) (fun c217 => ?_)))))))
   ·
    obtain ⟨hq1, hq2, hq3⟩ : rnMany x 0 = 11 ∧ rnBits x = 7 ∧ rnVal acc x = 0 := by rw [c217]; exact ⟨rfl, rfl, rfl⟩
    exact CT.sub .t1 (CT.q (TL.rm .h3 (TL.val (r_asg .c) (TL.q (TL.rm .h3 (TL.val (r_asg .c) (TL.e (CT.region (TL.rm .h3 (TL.val (r_asg .c) (TL.nil (EX.bnormal (EX.perm p3 (EX.perm p4 (EX.perm p4 (EX.perm p4 (EX.perm p4 (EX.meet () (fun h => absurd h (by omega)) (.refl _) (.eq m0 (congrArg (fun z : Nat => Value.int .i64 (z : Int)) (show (0 : Nat) = (rnVal acc x) by omega)) (.eq m1 (congrArg (fun z : Nat => Value.int .u64 (z : Int)) (show (7 : Nat) = (rnBits x) by omega)) (.eq m2 (congrArg (fun z : Nat => Value.int .i64 (z : Int)) (show (11 : Nat) = (rnMany x 0) by omega)) (.sl 4 8 rfl))))))))))))))))))))))
   exfalso; omega
  rintro ⟨⟩ hne
  replace hne : x = 16 → acc ≠ [] := hne
  have hrl := rnExp_length acc x v
  have hcs2 : (o = none ∧ nl + nd < (rnExp acc x v).length) ∨ ((rnExp acc x v).length ≤ nl + nd ∧ RunR own nl nd (rnExp acc x v) rest o) := by rcases hcs with ⟨_, h1, h2⟩ | ⟨_, h⟩ <;> first | exact absurd h2 (hne h1) | exact h
  have hp7 : 2 ^ rnBits x ≤ 2 ^ 7 := Nat.pow_le_pow_right (by decide) hrb
  have hpp := Nat.two_pow_pos (rnBits x)
  have hdr2 := drop_app hdr
  rw [nbits_length] at hdr2
  refine CT.seq (CT.block (CT.loop (X := Nat × Nat × Nat) (fun gx => [(16, (i64 (rnVal acc x))), (15, (u64 (rnBits x))), (14, (i64 (rnMany x 0))), (13, .nilIface), (12, (i64 x)), (10, (i64 acc.length)), (11, (i64 (nl + nd))), (6, (i64 many)), (5, (i64 nd)), (4, (i64 nl)), (0, (.pointer (some ⟨f, 0, none⟩)))]) (fun gx => (blk f 1054 (D { s with r := .iface 49 (.pointer (some ⟨r, 0, none⟩)), roff := gx.1, b := gx.2.1, nb := gx.2.2, H := H1, bits := .pointer (some ⟨bb, 0, none⟩), cbits := .pointer (some ⟨cb, 0, none⟩) })) :: Br r B gx.1 :: blk bb 316 (bbf acc Fb) :: blk cb 19 (cbf own 19 Fc) :: Lnks t1 :: R) (fun gx => Held B (kk + own.getD x 0) gx.1 gx.2.1 gx.2.2 ∧ NB 0 (rnBits x) gx.2.2 ∧ gx.1 ≤ (pack B).length) (fun gx => rnBits x - gx.2.2) ((i7, b7, n7)) (⟨hheld7, .of (by omega), hil7⟩) (.refl _) (.sl 0 11 rfl) ?_))
  rintro ⟨i8, b8, n8⟩ ⟨hheld8, hnb8, hib8⟩
  replace hheld8 : Held B (kk + own.getD x 0) i8 b8 n8 := hheld8
  replace hnb8 : NB 0 (rnBits x) n8 := hnb8
  replace hib8 : i8 ≤ (pack B).length := hib8
  have hn8b : n8 ≤ 22 := hnb8.le (by decide) (by omega)
  have hb8 : b8 < 4294967296 := Nat.lt_of_lt_of_le hheld8.lt (Nat.pow_le_pow_right (by decide) (show n8 ≤ 32 from Nat.le_trans hn8b (by decide)))
  refine CT.seq (CT.q (TL.m m10 (TL.c m0 (TL.f 4 fo_103_4 m0 (TL.val (r_ld (v := (u64 n8)) Tryz.isAgg90 m0 (.t m0) (by decide) (Dget_nb _)) (TL.m m5 (TL.val (n_lss n8 ((rnBits x)) (.t m1) (.t m0) rfl rfl) (TL.sub (.hd .t5) (TL.e (CT.ifd m0 (fun c224 => ?_) (fun c224 => ?_)))))))))))
  ·
   have hlt8 : n8 < rnBits x := by omega
   have hbyte8 := byte_ok hheld8 hlt8 (show kk + own.getD x 0 + rnBits x ≤ B.length by omega)
   refine CT.sub .t1 (CT.skip (EX.seq (CT.block (CT.q (TL.m m10 (TL.perm p1 (TL.perm p1 (TL.call (r_call ce_86 (.cons (.t m0) .nil)) (fun w hS => t86 f r i8 B { s with r := .iface 49 (.pointer (some ⟨r, 0, none⟩)), roff := i8, b := b8, nb := n8, H := H1, bits := .pointer (some ⟨bb, 0, none⟩), cbits := .pointer (some ⟨cb, 0, none⟩) } hbyte8.2 (by omega) (by show i8 < 9223372036854775807; omega) (by show b8 < 4294967296; omega) (by show n8 ≤ 24; omega) hS) ?_))))))))
   rintro z226 w226 ⟨hz226, hS⟩
   replace hz226 : z226 = .nilIface := hz226
   subst hz226
   replace hS : Sat G w226 (blk f 1054 (D { s with r := .iface 49 (.pointer (some ⟨r, 0, none⟩)), roff := i8 + 1, b := b8 ||| byteAt B i8 * 2 ^ n8, nb := n8 + 8, H := H1, bits := .pointer (some ⟨bb, 0, none⟩), cbits := .pointer (some ⟨cb, 0, none⟩) }) :: Br r B (i8 + 1) :: blk bb 316 (bbf acc Fb) :: blk cb 19 (cbf own 19 Fc) :: Lnks t1 :: R) := hS
   refine TW.at hS ?_
   refine TL.a m0 (TL.sub (.hd .t2) (TL.q (TL.m m0 (TL.val (r_nen Tryz.underlying82 (.t m0)) (TL.sub (.hd .t1) (TL.e (CT.iff_ m0 ?_)))))))
   exact CT.sub .t1 (CT.skip (EX.bnormal (EX.again ((i8 + 1, b8 ||| byteAt B i8 * 2 ^ n8, n8 + 8)) (⟨hheld8.more hbyte8.1, hnb8.more hlt8, hbyte8.2⟩) (by show rnBits x - (n8 + 8) < rnBits x - n8; omega) (.refl _) (.sl 1 11 rfl))))
  have hge8 : rnBits x ≤ n8 := by omega
  refine CT.sub .t1 (CT.exit (EX.then_exit (EX.then_exit (EX.out (EX.q (TL.m m2 (TL.m m11 (TL.c m0 (TL.f 3 fo_103_3 m0 (TL.val (r_ld (v := (u32 b8)) Tryz.isAgg89 m0 (.t m0) (by decide) (Dget_b _)) (TL.m m6 (TL.val (n_shl 1 ((rnBits x)) 4294967296 .c (.t m0) rfl rfl (show _ ≤ 32 by omega) (by omega)) (TL.val (n_sub ((1 * 2 ^ (rnBits x))) 1 4294967296 (.t m0) .c rfl rfl (by omega) (by omega)) (TL.val (n_and b8 (1 * 2 ^ rnBits x - 1) 4294967296 (.t m3) (.t m0) rfl rfl (by omega) (by omega)) (TL.sub (.eq m0 (congrArg (fun z : Nat => Value.int .u32 (z : Int)) (hheld8.and (by omega) hv hdr)) (.cons m1 (.cons m2 (.cons m3 (.cons m4 (.cons m5 (.cons m6 (.cons m7 (.cons m8 (.cons m9 (.cons m10 (.cons m11 (.cons m12 (.cons m13 (.cons m14 (.cons m15 (.cons m16 (.cons m17 (.cons m18 (.cons m19 .nil)))))))))))))))))))) (TL.val (n_conv v 9223372036854775808 ⟨_, Tryz.underlying89⟩ Tryz.underlying3 (.t m0) rfl (by omega)) (TL.val (n_add ((rnMany x 0)) v 9223372036854775808 (.t m9) (.t m0) rfl rfl (by omega)) (TL.rm .h13 (TL.a m0 (TL.sub (.hd .t11) (TL.q (TL.m m10 (TL.c m0 (TL.f 3 fo_103_3 m0 (TL.val (r_ld (v := (u32 b8)) Tryz.isAgg89 m0 (.t m0) (by decide) (Dget_b _)) (TL.m m6 (TL.val (n_shr b8 ((rnBits x)) (.t m1) (.t m0) rfl rfl (show _ ≤ 32 by omega)) (TL.c m5 (TL.f 3 fo_103_3 m0 (TL.s (r_st (F' := D { s with r := .iface 49 (.pointer (some ⟨r, 0, none⟩)), roff := i8, b := b8 / 2 ^ (rnBits x), nb := n8, H := H1, bits := .pointer (some ⟨bb, 0, none⟩), cbits := .pointer (some ⟨cb, 0, none⟩) }) Tryz.sizeOf89 (Dsat_b ((b8 / 2 ^ (rnBits x)))) a0 (.t m0) (.t m2) (by decide)) (TL.sub .t8 (TL.e (CT.seq ?_)))))))))))))))))))))))))))))))))
  refine CT.region (TL.m m10 (TL.c m0 (TL.f 4 fo_103_4 m0 (TL.val (r_ld (v := (u64 n8)) Tryz.isAgg90 m0 (.t m0) (by decide) (Dget_nb _)) (TL.m m6 (TL.val (n_sub n8 ((rnBits x)) 18446744073709551616 (.t m1) (.t m0) rfl rfl (by omega) (by omega)) (TL.c m5 (TL.f 4 fo_103_4 m0 (TL.s (r_st (F' := D { s with r := .iface 49 (.pointer (some ⟨r, 0, none⟩)), roff := i8, b := b8 / 2 ^ (rnBits x), nb := n8 - (rnBits x), H := H1, bits := .pointer (some ⟨bb, 0, none⟩), cbits := .pointer (some ⟨cb, 0, none⟩) }) Tryz.sizeOf90 (Dsat_nb ((n8 - (rnBits x)))) a0 (.t m0) (.t m2) (by decide)) (TL.sub .t8 (TL.e (CT.seq (CT.q (TL.m m5 (TL.m m1 (TL.val (n_add acc.length (((rnMany x 0) + v)) 9223372036854775808 (.t m1) (.t m0) rfl rfl (by omega)) (TL.m m9 (TL.val (n_gtr ((acc.length + ((rnMany x 0) + v))) ((nl + nd)) (.t m1) (.t m0) rfl rfl) (TL.sub (.hd .t4) (TL.e (CT.ifd m0 (fun c261 => ?_) (fun c261 => ?_))))))))))))))))))))))
  ·
   have ho : o = none := by rcases hcs2 with ⟨h, _⟩ | ⟨h, _⟩ <;> first | exact h | omega
   refine CT.sub .t1 (CT.q (TL.m m10 (TL.c m0 (TL.f 2 fo_103_2 m0 (TL.val (r_ld (v := (i64 i8)) Tryz.isAgg2 m0 (.t m0) (by decide) (Dget_roff _)) (TL.val (r_mki Tryz.underlying121 (.t m0)) (TL.a m0 (TL.sub (.hd .t5) (TL.e (CT.ret (EX.then_ret (EX.bret (EX.then_ret (EX.bret (EX.then_ret (EX.perm p4 (EX.conv (fun _ h => h.tail) ?_)))))))))))))))))
   exact EX.perm p3 (EX.perm p3 (EX.perm p3 (EX.perm p3 (EX.end_ (.inl rfl) (res1 Tryz.results90 m0) (fun _ hS => ⟨i8, b8 / 2 ^ rnBits x, n8 - rnBits x, H1, hib8, hHO1, .inl ⟨ho, _, rfl, any2 hS⟩⟩)))))
  have hcs3 : RunR own nl nd (rnExp acc x v) rest o := by rcases hcs2 with ⟨_, h⟩ | ⟨_, h⟩ <;> first | exact h | omega
  refine CT.sub .t1 (CT.skip (EX.q (TL.val (r_asg .c) (TL.e (CT.block (CT.fold (A' := (blk bb 316 (bbf (acc ++ List.replicate 0 (rnVal acc x)) Fb))) a2 (blk_eq rfl (by rw [List.replicate_zero, List.append_nil])) (CT.fold (A' := (blk f 1054 (D { s with r := .iface 49 (.pointer (some ⟨r, 0, none⟩)), roff := i8, b := b8 / 2 ^ rnBits x, nb := n8 - rnBits x, H := H1, bits := .pointer (some ⟨bb, 0, none⟩), cbits := .pointer (some ⟨cb, 0, none⟩) }))) a0 (D_eq rfl) (CT.loop (X := Nat) (fun gx => [(18, (i64 gx)), (10, (i64 (acc.length + gx))), (14, (i64 ((rnMany x 0) + v))), (16, (i64 (rnVal acc x))), (11, (i64 (nl + nd))), (6, (i64 many)), (5, (i64 nd)), (4, (i64 nl)), (0, (.pointer (some ⟨f, 0, none⟩)))]) (fun gx => (blk f 1054 (D { s with r := .iface 49 (.pointer (some ⟨r, 0, none⟩)), roff := i8, b := b8 / 2 ^ rnBits x, nb := n8 - rnBits x, H := H1, bits := .pointer (some ⟨bb, 0, none⟩), cbits := .pointer (some ⟨cb, 0, none⟩) })) :: Br r B i8 :: blk bb 316 (bbf (acc ++ List.replicate gx (rnVal acc x)) Fb) :: blk cb 19 (cbf own 19 Fc) :: Lnks t1 :: R) (fun gx => gx ≤ rnMany x 0 + v) (fun gx => rnMany x 0 + v - gx) 0 (Nat.zero_le _) (.refl _) (.cons m0 (.eq m6 (congrArg (fun z : Nat => Value.int .i64 (z : Int)) (show (acc.length : Nat) = (acc.length + 0) by omega)) (.cons m1 (.cons m2 (.sl 7 5 rfl))))) ?_))))))))
  rintro c hL
  replace hL : c ≤ rnMany x 0 + v := hL
  refine CT.seq (CT.q (TL.m m0 (TL.m m3 (TL.val (n_lss c (((rnMany x 0) + v)) (.t m1) (.t m0) rfl rfl) (TL.sub (.hd .t2) (TL.e (CT.ifd m0 (fun c269 => ?_) (fun c269 => ?_))))))))
  ·
   exact CT.sub .t1 (CT.skip (EX.seq (CT.seq (CT.block (CT.q (TL.m m8 (TL.c m0 (TL.f 1035 fo_103_7 m0 (TL.val (r_ld (v := (.pointer (some ⟨bb, 0, none⟩))) Tryz.isAgg95 m0 (.t m0) (by decide) (Dget_bits _)) (TL.m m5 (TL.m m8 (TL.c m2 (TL.val (r_iaa (i := (acc.length + c)) (off' := (acc.length + c)) Tryz.underlying105 Tryz.sizeOf3 (.t m0) (.t m2) rfl (by omega) (by omega)) (TL.s (r_st (F' := bbf (acc ++ List.replicate c (rnVal acc x) ++ [(rnVal acc x)]) Fb) Tryz.sizeOf3 (bbf_put2 (by rw [List.length_append, List.length_replicate])) a2 (.t m0) (.t m2) (by omega)) (TL.sub .t8 (TL.e (CT.region (TL.m m1 (TL.val (n_add ((acc.length + c)) 1 9223372036854775808 (.t m0) .c rfl rfl (by omega)) (TL.rm .h3 (TL.a m0 (TL.sub (.hd .t2) (TL.nil (EX.bnormal (EX.seq (CT.region (TL.m m1 (TL.val (n_add c 1 9223372036854775808 (.t m0) .c rfl rfl (by omega)) (TL.rm .h3 (TL.a m0 (TL.sub (.hd .t2) (TL.nil (EX.fold (A' := (blk bb 316 (bbf (acc ++ List.replicate (c + 1) (rnVal acc x)) Fb))) a2 (blk_eq rfl (by rw [List.append_assoc, ← List.replicate_succ'])) (EX.again (c + 1) (by show c + 1 ≤ rnMany x 0 + v; omega) (by show rnMany x 0 + v - (c + 1) < rnMany x 0 + v - c; omega) (.refl _) (.eq m0 (congrArg (fun z : Nat => Value.int .i64 (z : Int)) (show ((c + 1) : Nat) = c + 1 by omega)) (.eq m1 (congrArg (fun z : Nat => Value.int .i64 (z : Int)) (show (((acc.length + c) + 1) : Nat) = (acc.length + c + 1) by omega)) (.sl 2 7 rfl)))))))))))))))))))))))))))))))))))))
  have hce : c = rnMany x v := by omega
  have hmp := rnMany_pos x v
  exact CT.sub .t1 (CT.exit (EX.then_exit (EX.then_exit (EX.out (EX.bnormal (EX.fold (A' := (blk bb 316 (bbf (rnExp acc x v) Fb))) a2 (blk_eq rfl (by rw [hce]; rfl)) (EX.again ((rnExp acc x v, kk + own.getD x 0 + rnBits x, i8, b8 / 2 ^ rnBits x, n8 - rnBits x)) (⟨hheld8.take hge8, (by show n8 - rnBits x ≤ 7; have := hnb8.take; omega), hib8, (by show (rnExp acc x v).length ≤ nl + nd; omega), (by show kk + own.getD x 0 + rnBits x ≤ B.length; omega), by show RunR own nl nd (rnExp acc x v) (B.drop (kk + own.getD x 0 + rnBits x)) o; rw [hdr2]; exact hcs3⟩) (by show nl + nd - (rnExp acc x v).length < nl + nd - acc.length; omega) (.refl _) (.eq m1 (congrArg (fun z : Nat => Value.int .i64 (z : Int)) (show ((acc.length + c) : Nat) = (rnExp acc x v).length by omega)) (.sl 4 5 rfl)))))))))
 obtain ⟨lit, dist, hacc, hl1, hl2, h15, h256, hfin⟩ := hI6.fin (by omega)
 have hll : (lit ++ dist).length ≤ 316 := by rw [List.length_append]; omega
 have h15l : ∀ x ∈ lit, x ≤ 15 := fun x hx => h15 x (List.mem_append_left _ hx)
 have h15d : ∀ x ∈ dist, x ≤ 15 := fun x hx => h15 x (List.mem_append_right _ hx)
 have hx256 := h256.1
 refine CT.fold (A' := (blk bb 316 (bbf (lit ++ dist) Fb))) a2 (blk_eq rfl (by rw [hacc])) (CT.sub .t1 (CT.exit (EX.then_exit (EX.then_exit (EX.out (EX.seq (CT.seq (CT.seq ?_))))))))
 rcases hfin with ⟨ho, hfl, hfd | hz0⟩ | ⟨ho, hovl | ⟨hfl, hovd⟩⟩
 ·
  refine CT.any fm ?_
  refine TA.take 0 rfl (by kernel_rfl) (by kernel_rfl) (by kernel_rfl) (NP.then_ (NP.then_ NP.body)) (fun G L => r_move (.t m5)) ?_
  refine TA.take 1 rfl (by kernel_rfl) (by kernel_rfl) (by kernel_rfl) (NP.then_ (NP.then_ NP.body)) (fun G L => r_nil (.t m0)) ?_
  refine TA.take 2 rfl (by kernel_rfl) (by kernel_rfl) (by kernel_rfl) (NP.then_ (NP.then_ NP.body)) (fun G L => r_fa (off' := 5) fo_103_5 (.t m0)) ?_
  refine TA.take 3 rfl (by kernel_rfl) (by kernel_rfl) (by kernel_rfl) (NP.then_ (NP.then_ NP.body)) (fun G L => r_move (.t m8)) ?_
  refine TA.take 4 rfl (by kernel_rfl) (by kernel_rfl) (by kernel_rfl) (NP.then_ (NP.then_ NP.body)) (fun G L => r_nil (.t m0)) ?_
  refine TA.take 5 rfl (by kernel_rfl) (by kernel_rfl) (by kernel_rfl) (NP.then_ (NP.then_ NP.body)) (fun G L => r_fa (off' := 1035) fo_103_7 (.t m0)) ?_
  refine TA.take 8 rfl (by kernel_rfl) (by kernel_rfl) (by kernel_rfl) (NP.then_ (NP.then_ NP.body)) (fun G L => r_move (.t m10)) ?_
  refine TA.one 6 (by kernel_rfl) ?_
  refine TO.val rfl (r_ld (v := (.pointer (some ⟨bb, 0, none⟩))) Tryz.isAgg95 m0 (.t m1) (by decide) (Dget_bits _)) ?_
  refine TA.take 7 rfl (by kernel_rfl) (by kernel_rfl) (by kernel_rfl) (NP.then_ (NP.then_ NP.body)) (fun G L => r_nil (.t m0)) ?_
  refine TA.take 9 rfl (by kernel_rfl) (by kernel_rfl) (by kernel_rfl) (NP.then_ (NP.then_ NP.body)) (fun G L => r_slicea (off' := 0) (m := nl) (c' := 316) Tryz.underlying105 Tryz.sizeOf3 (.t m0) (.so (j := 0) .c rfl) (.so (j := nl) (.t m2) rfl) (by (try simp) <;> omega) (by (try simp) <;> omega) (by simp) (by simp) (by simp)) ?_
  refine TA.sub (ρ' := [(291, (.slice (some ⟨bb, 0, none⟩) lit.length 316)), (289, (.pointer (some ⟨bb, 0, none⟩))), (288, (.pointer (some ⟨bb, 0, none⟩))), (290, (i64 nl)), (287, (.pointer (some ⟨f, 1035, none⟩))), (286, (.pointer (some ⟨f, 0, none⟩))), (285, (.pointer (some ⟨f, 0, none⟩))), (284, (.pointer (some ⟨f, 5, none⟩))), (283, (.pointer (some ⟨f, 0, none⟩))), (282, (.pointer (some ⟨f, 0, none⟩))), (10, (i64 acc.length)), (11, (i64 (nl + nd))), (6, (i64 many)), (5, (i64 nd)), (4, (i64 nl)), (0, (.pointer (some ⟨f, 0, none⟩)))]) (.eq m0 (by rw [hl1]) (.sl 1 15 rfl)) ?_
  refine TA.one 10 (by kernel_rfl) ?_
  refine TO.perm p2 ?_
  refine TO.perm p1 ?_
  refine TO.call rfl (r_call ce_111 (.cons (.t m7) (.cons (.t m0) .nil))) (fun w hS => t111a (s := { s with r := .iface 49 (.pointer (some ⟨r, 0, none⟩)), roff := i6, b := b6, nb := n6, H := H1, bits := .pointer (some ⟨bb, 0, none⟩), cbits := .pointer (some ⟨cb, 0, none⟩) }) hHO1 (blk bb 316 (bbf (lit ++ dist) Fb)) lit bb 0 316 (bbf_rd0 hll) (by omega) h15l hfl hS) ?_
  rintro _ w292 ⟨tl, H2, rfl, htl, ⟨hml1, hml2, hml3⟩, hHO2, hS⟩
  refine TB.at hS ?_
  refine TA.take 11 rfl (by kernel_rfl) (by kernel_rfl) (by kernel_rfl) (NP.then_ (NP.then_ NP.body)) (fun G L => r_nott (.t m0)) ?_
  refine TA.take 12 rfl (by kernel_rfl) (by kernel_rfl) (by kernel_rfl) (NP.then_ (NP.then_ NP.body)) (fun G L => r_move (.t m0)) ?_
  refine TA.takeg 13 rfl (by kernel_rfl) (by kernel_rfl) (by kernel_rfl) (NP.then_ (NP.then_ NP.body)) m0 (fun G L => r_move (.t m18)) ?_ rfl
  refine TA.takeg 14 rfl (by kernel_rfl) (by kernel_rfl) (by kernel_rfl) (NP.then_ (NP.then_ NP.body)) m1 (fun G L => r_nil (.t m0)) ?_ rfl
  refine TA.takeg 15 rfl (by kernel_rfl) (by kernel_rfl) (by kernel_rfl) (NP.then_ (NP.then_ NP.body)) m2 (fun G L => r_fa (off' := 520) fo_103_6 (.t m0)) ?_ rfl
  refine TA.takeg 16 rfl (by kernel_rfl) (by kernel_rfl) (by kernel_rfl) (NP.then_ (NP.then_ NP.body)) m3 (fun G L => r_move (.t m21)) ?_ rfl
  refine TA.takeg 17 rfl (by kernel_rfl) (by kernel_rfl) (by kernel_rfl) (NP.then_ (NP.then_ NP.body)) m4 (fun G L => r_nil (.t m0)) ?_ rfl
  refine TA.takeg 18 rfl (by kernel_rfl) (by kernel_rfl) (by kernel_rfl) (NP.then_ (NP.then_ NP.body)) m5 (fun G L => r_fa (off' := 1035) fo_103_7 (.t m0)) ?_ rfl
  refine TA.takeg 21 rfl (by kernel_rfl) (by kernel_rfl) (by kernel_rfl) (NP.then_ (NP.then_ NP.body)) m6 (fun G L => r_move (.t m23)) ?_ rfl
  refine TA.takeg 22 rfl (by kernel_rfl) (by kernel_rfl) (by kernel_rfl) (NP.then_ (NP.then_ NP.body)) m7 (fun G L => r_move (.t m24)) ?_ rfl
  refine TA.takeg 23 rfl (by kernel_rfl) (by kernel_rfl) (by kernel_rfl) (NP.then_ (NP.then_ NP.body)) m8 (fun G L => r_move (.t m24)) ?_ rfl
  refine TA.takeg 24 rfl (by kernel_rfl) (by kernel_rfl) (by kernel_rfl) (NP.then_ (NP.then_ NP.body)) m9 (fun G L => n_add nl nd 9223372036854775808 (.t m1) (.t m0) rfl rfl (by omega)) ?_ rfl
  refine TA.one 19 (by kernel_rfl) ?_
  refine TO.gval rfl m10 (r_ld (v := (.pointer (some ⟨bb, 0, none⟩))) Tryz.isAgg95 m0 (.t m4) (by decide) (Dget_bits _)) ?_ rfl
  refine TA.takeg 20 rfl (by kernel_rfl) (by kernel_rfl) (by kernel_rfl) (NP.then_ (NP.then_ NP.body)) m11 (fun G L => r_nil (.t m0)) ?_ rfl
  refine TA.takeg 25 rfl (by kernel_rfl) (by kernel_rfl) (by kernel_rfl) (NP.then_ (NP.then_ NP.body)) m12 (fun G L => r_slicea (off' := nl) (m := (nl + nd) - nl) (c' := 316 - nl) Tryz.underlying105 Tryz.sizeOf3 (.t m0) (.so (j := nl) (.t m5) rfl) (.so (j := (nl + nd)) (.t m2) rfl) (by first | (show nl ≤ nl + nd; omega) | (show nl + nd ≤ 316; omega)) (by first | (show nl ≤ nl + nd; omega) | (show nl + nd ≤ 316; omega)) (by show (if 316 = nl then 0 else 0 + nl * 1) = nl; rw [if_neg (by omega)]; omega) (by simp) (by simp)) ?_ rfl
  refine TA.sub (ρ' := [(307, (.slice (some ⟨bb, nl, none⟩) dist.length ((316 - nl)))), (302, (.pointer (some ⟨bb, 0, none⟩))), (301, (.pointer (some ⟨bb, 0, none⟩))), (306, (i64 (nl + nd))), (305, (i64 nd)), (304, (i64 nl)), (303, (i64 nl)), (300, (.pointer (some ⟨f, 1035, none⟩))), (299, (.pointer (some ⟨f, 0, none⟩))), (298, (.pointer (some ⟨f, 0, none⟩))), (297, (.pointer (some ⟨f, 520, none⟩))), (296, (.pointer (some ⟨f, 0, none⟩))), (295, (.pointer (some ⟨f, 0, none⟩))), (294, (.bool false)), (293, (.bool false)), (292, (.bool true)), (291, (.slice (some ⟨bb, 0, none⟩) lit.length 316)), (289, (.pointer (some ⟨bb, 0, none⟩))), (288, (.pointer (some ⟨bb, 0, none⟩))), (290, (i64 nl)), (287, (.pointer (some ⟨f, 1035, none⟩))), (286, (.pointer (some ⟨f, 0, none⟩))), (285, (.pointer (some ⟨f, 0, none⟩))), (284, (.pointer (some ⟨f, 5, none⟩))), (283, (.pointer (some ⟨f, 0, none⟩))), (282, (.pointer (some ⟨f, 0, none⟩))), (10, (i64 acc.length)), (11, (i64 (nl + nd))), (6, (i64 many)), (5, (i64 nd)), (4, (i64 nl)), (0, (.pointer (some ⟨f, 0, none⟩)))]) (.eq m0 (congrArg (fun z : Nat => Value.slice (some ⟨bb, nl, none⟩) z _) (show nl + nd - nl = dist.length by omega)) (.sl 1 31 rfl)) ?_
  refine TA.one 26 (by kernel_rfl) ?_
  refine TO.perm p1 ?_
  refine TO.perm p1 ?_
  refine TO.gcall rfl m13 (r_call ce_111 (.cons (.t m10) (.cons (.t m0) .nil))) (fun w hS => t111b (s := { s with r := .iface 49 (.pointer (some ⟨r, 0, none⟩)), roff := i6, b := b6, nb := n6, H := H2, bits := .pointer (some ⟨bb, 0, none⟩), cbits := .pointer (some ⟨cb, 0, none⟩) }) hHO2 (blk bb 316 (bbf (lit ++ dist) Fb)) dist bb nl (316 - nl) (bbf_rd hll hl1) (by omega) h15d hfd hS) ?_ rfl
  rintro _ w308 ⟨td, H3, rfl, htd, hmd, hHO3, hH3, hS⟩
  refine TB.at hS ?_
  refine TA.takeg 27 rfl (by kernel_rfl) (by kernel_rfl) (by kernel_rfl) (NP.then_ (NP.then_ NP.body)) m14 (fun G L => r_nott (.t m0)) ?_ rfl
  refine TA.take 28 rfl (by kernel_rfl) (by kernel_rfl) (by kernel_rfl) (NP.then_ (NP.then_ NP.body)) (fun G L => r_pickf (.t m15) (.t m0)) ?_
  refine TA.done (by kernel_rfl) ?_
  refine EX.sub (.hd (.tl (.tl (.tl (.tl .t24))))) (EX.seq (CT.iff_ m0 ?_))
  refine CT.sub .t1 (CT.skip (EX.seq (CT.seq (CT.seq ?_))))
  have htl3 := htl.ext hH3
  have hm256 := hml3 256 h256
  have he15 := h256.2.2
  have he1 := h256.2.1
  refine CT.still fm (by kernel_rfl) ?_
  refine TS.val (r_move (.t m5)) ?_
  refine TS.val (r_nil (.t m0)) ?_
  refine TS.val (r_fa (off' := 5) fo_103_5 (.t m0)) ?_
  refine TS.val (r_fa (off' := 5) fo_94_0 (.t m0)) ?_
  refine TS.val (r_ldc (v := (i64 tl.mn)) Tryz.isAgg3 (.t m0) (fun w hS => (hS.cell m0 (i := 5) (by decide)).trans (congrArg some ((D_H _ (j := 0) (by decide)).trans (htl3.cells 0 (by decide)))))) ?_
  refine TS.val (r_move (.t m10)) ?_
  refine TS.val (r_nil (.t m0)) ?_
  refine TS.val (r_fa (off' := 1035) fo_103_7 (.t m0)) ?_
  refine TS.val (r_ld (v := (.pointer (some ⟨bb, 0, none⟩))) Tryz.isAgg95 m0 (.t m0) (by decide) (Dget_bits _)) ?_
  refine TS.val (r_nil (.t m0)) ?_
  refine TS.val (r_iaa (i := 256) (off' := 256) Tryz.underlying105 Tryz.sizeOf3 (.t m0) .c rfl (by decide) rfl) ?_
  refine TS.val (r_ld (v := (i64 (lit.getD 256 0))) Tryz.isAgg3 m1 (.t m0) (by decide) (bbf_lit (by omega))) ?_
  refine TS.val (n_lss tl.mn ((lit.getD 256 0)) (.t m7) (.t m0) rfl rfl) ?_
  refine TS.nil ?_
  refine TL.sub (.hd .t12) (TL.e (CT.ifd m0 (fun c328 => ?_) (fun c328 => ?_)))
  ·
   refine CT.sub .t1 (CT.region (TL.m m5 (TL.m m6 (TL.c m0 (TL.f 1035 fo_103_7 m0 (TL.val (r_ld (v := (.pointer (some ⟨bb, 0, none⟩))) Tryz.isAgg95 m0 (.t m0) (by decide) (Dget_bits _)) (TL.c m0 (TL.val (r_iaa (i := 256) (off' := 256) Tryz.underlying105 Tryz.sizeOf3 (.t m0) .c rfl (by decide) rfl) (TL.val (r_ld (v := (i64 (lit.getD 256 0))) Tryz.isAgg3 m1 (.t m0) (by decide) (bbf_lit (by omega))) (TL.c m7 (TL.f 5 fo_103_5 m0 (TL.f 5 fo_94_0 m0 (TL.s (r_st (F' := D { s with r := .iface 49 (.pointer (some ⟨r, 0, none⟩)), roff := i6, b := b6, nb := n6, H := upd H3 0 (i64 (lit.getD 256 0)), bits := .pointer (some ⟨bb, 0, none⟩), cbits := .pointer (some ⟨cb, 0, none⟩) }) Tryz.sizeOf3 (D_min _ _) a0 (.t m0) (.t m3) (by decide)) (TL.sub .t11 (TL.q (TL.val (r_asg .c) (TL.e (CT.ret (EX.perm p6 (EX.conv (fun _ h => h.tail) ?_))))))))))))))))))))
   exact EX.perm p2 (EX.perm p3 (EX.perm p5 (EX.perm p4 (EX.perm p5 (EX.perm p5 (EX.end_ (.inl rfl) (res1 Tryz.results90 m0) (fun _ hS => ⟨i6, b6, n6, (upd H3 0 (i64 (lit.getD 256 0))), hI3, hHO3.min (by omega), .inr ⟨lit, dist, B.drop kk, { tl with mn := lit.getD 256 0 }, td, kk, ho, rfl, hI5, rfl, hI1, hI2, h256, htl3.min he15, rfl, .inl ⟨htd.ext fun j hj => if_neg (by omega), hmd⟩, any2 hS⟩⟩)))))))
  refine CT.sub .t1 (CT.skip (EX.q (TL.val (r_asg .c) (TL.e (CT.ret (EX.perm p6 (EX.conv (fun _ h => h.tail) ?_)))))))
  exact EX.perm p2 (EX.perm p3 (EX.perm p5 (EX.perm p4 (EX.perm p5 (EX.perm p5 (EX.end_ (.inl rfl) (res1 Tryz.results90 m0) (fun _ hS => ⟨i6, b6, n6, H3, hI3, hHO3, .inr ⟨lit, dist, B.drop kk, tl, td, kk, ho, rfl, hI5, rfl, hI1, hI2, h256, htl3, (by omega), .inl ⟨htd.ext fun j hj => rfl, hmd⟩, any2 hS⟩⟩)))))))
 ·
  refine CT.any fm ?_
  refine TA.take 0 rfl (by kernel_rfl) (by kernel_rfl) (by kernel_rfl) (NP.then_ (NP.then_ NP.body)) (fun G L => r_move (.t m5)) ?_
  refine TA.take 1 rfl (by kernel_rfl) (by kernel_rfl) (by kernel_rfl) (NP.then_ (NP.then_ NP.body)) (fun G L => r_nil (.t m0)) ?_
  refine TA.take 2 rfl (by kernel_rfl) (by kernel_rfl) (by kernel_rfl) (NP.then_ (NP.then_ NP.body)) (fun G L => r_fa (off' := 5) fo_103_5 (.t m0)) ?_
  refine TA.take 3 rfl (by kernel_rfl) (by kernel_rfl) (by kernel_rfl) (NP.then_ (NP.then_ NP.body)) (fun G L => r_move (.t m8)) ?_
  refine TA.take 4 rfl (by kernel_rfl) (by kernel_rfl) (by kernel_rfl) (NP.then_ (NP.then_ NP.body)) (fun G L => r_nil (.t m0)) ?_
  refine TA.take 5 rfl (by kernel_rfl) (by kernel_rfl) (by kernel_rfl) (NP.then_ (NP.then_ NP.body)) (fun G L => r_fa (off' := 1035) fo_103_7 (.t m0)) ?_
  refine TA.take 8 rfl (by kernel_rfl) (by kernel_rfl) (by kernel_rfl) (NP.then_ (NP.then_ NP.body)) (fun G L => r_move (.t m10)) ?_
  refine TA.one 6 (by kernel_rfl) ?_
  refine TO.val rfl (r_ld (v := (.pointer (some ⟨bb, 0, none⟩))) Tryz.isAgg95 m0 (.t m1) (by decide) (Dget_bits _)) ?_
  refine TA.take 7 rfl (by kernel_rfl) (by kernel_rfl) (by kernel_rfl) (NP.then_ (NP.then_ NP.body)) (fun G L => r_nil (.t m0)) ?_
  refine TA.take 9 rfl (by kernel_rfl) (by kernel_rfl) (by kernel_rfl) (NP.then_ (NP.then_ NP.body)) (fun G L => r_slicea (off' := 0) (m := nl) (c' := 316) Tryz.underlying105 Tryz.sizeOf3 (.t m0) (.so (j := 0) .c rfl) (.so (j := nl) (.t m2) rfl) (by (try simp) <;> omega) (by (try simp) <;> omega) (by simp) (by simp) (by simp)) ?_
  refine TA.sub (ρ' := [(291, (.slice (some ⟨bb, 0, none⟩) lit.length 316)), (289, (.pointer (some ⟨bb, 0, none⟩))), (288, (.pointer (some ⟨bb, 0, none⟩))), (290, (i64 nl)), (287, (.pointer (some ⟨f, 1035, none⟩))), (286, (.pointer (some ⟨f, 0, none⟩))), (285, (.pointer (some ⟨f, 0, none⟩))), (284, (.pointer (some ⟨f, 5, none⟩))), (283, (.pointer (some ⟨f, 0, none⟩))), (282, (.pointer (some ⟨f, 0, none⟩))), (10, (i64 acc.length)), (11, (i64 (nl + nd))), (6, (i64 many)), (5, (i64 nd)), (4, (i64 nl)), (0, (.pointer (some ⟨f, 0, none⟩)))]) (.eq m0 (by rw [hl1]) (.sl 1 15 rfl)) ?_
  refine TA.one 10 (by kernel_rfl) ?_
  refine TO.perm p2 ?_
  refine TO.perm p1 ?_
  refine TO.call rfl (r_call ce_111 (.cons (.t m7) (.cons (.t m0) .nil))) (fun w hS => t111a (s := { s with r := .iface 49 (.pointer (some ⟨r, 0, none⟩)), roff := i6, b := b6, nb := n6, H := H1, bits := .pointer (some ⟨bb, 0, none⟩), cbits := .pointer (some ⟨cb, 0, none⟩) }) hHO1 (blk bb 316 (bbf (lit ++ dist) Fb)) lit bb 0 316 (bbf_rd0 hll) (by omega) h15l hfl hS) ?_
  rintro _ w292 ⟨tl, H2, rfl, htl, ⟨hml1, hml2, hml3⟩, hHO2, hS⟩
  refine TB.at hS ?_
  refine TA.take 11 rfl (by kernel_rfl) (by kernel_rfl) (by kernel_rfl) (NP.then_ (NP.then_ NP.body)) (fun G L => r_nott (.t m0)) ?_
  refine TA.take 12 rfl (by kernel_rfl) (by kernel_rfl) (by kernel_rfl) (NP.then_ (NP.then_ NP.body)) (fun G L => r_move (.t m0)) ?_
  refine TA.takeg 13 rfl (by kernel_rfl) (by kernel_rfl) (by kernel_rfl) (NP.then_ (NP.then_ NP.body)) m0 (fun G L => r_move (.t m18)) ?_ rfl
  refine TA.takeg 14 rfl (by kernel_rfl) (by kernel_rfl) (by kernel_rfl) (NP.then_ (NP.then_ NP.body)) m1 (fun G L => r_nil (.t m0)) ?_ rfl
  refine TA.takeg 15 rfl (by kernel_rfl) (by kernel_rfl) (by kernel_rfl) (NP.then_ (NP.then_ NP.body)) m2 (fun G L => r_fa (off' := 520) fo_103_6 (.t m0)) ?_ rfl
  refine TA.takeg 16 rfl (by kernel_rfl) (by kernel_rfl) (by kernel_rfl) (NP.then_ (NP.then_ NP.body)) m3 (fun G L => r_move (.t m21)) ?_ rfl
  refine TA.takeg 17 rfl (by kernel_rfl) (by kernel_rfl) (by kernel_rfl) (NP.then_ (NP.then_ NP.body)) m4 (fun G L => r_nil (.t m0)) ?_ rfl
  refine TA.takeg 18 rfl (by kernel_rfl) (by kernel_rfl) (by kernel_rfl) (NP.then_ (NP.then_ NP.body)) m5 (fun G L => r_fa (off' := 1035) fo_103_7 (.t m0)) ?_ rfl
  refine TA.takeg 21 rfl (by kernel_rfl) (by kernel_rfl) (by kernel_rfl) (NP.then_ (NP.then_ NP.body)) m6 (fun G L => r_move (.t m23)) ?_ rfl
  refine TA.takeg 22 rfl (by kernel_rfl) (by kernel_rfl) (by kernel_rfl) (NP.then_ (NP.then_ NP.body)) m7 (fun G L => r_move (.t m24)) ?_ rfl
  refine TA.takeg 23 rfl (by kernel_rfl) (by kernel_rfl) (by kernel_rfl) (NP.then_ (NP.then_ NP.body)) m8 (fun G L => r_move (.t m24)) ?_ rfl
  refine TA.takeg 24 rfl (by kernel_rfl) (by kernel_rfl) (by kernel_rfl) (NP.then_ (NP.then_ NP.body)) m9 (fun G L => n_add nl nd 9223372036854775808 (.t m1) (.t m0) rfl rfl (by omega)) ?_ rfl
  refine TA.one 19 (by kernel_rfl) ?_
  refine TO.gval rfl m10 (r_ld (v := (.pointer (some ⟨bb, 0, none⟩))) Tryz.isAgg95 m0 (.t m4) (by decide) (Dget_bits _)) ?_ rfl
  refine TA.takeg 20 rfl (by kernel_rfl) (by kernel_rfl) (by kernel_rfl) (NP.then_ (NP.then_ NP.body)) m11 (fun G L => r_nil (.t m0)) ?_ rfl
  refine TA.takeg 25 rfl (by kernel_rfl) (by kernel_rfl) (by kernel_rfl) (NP.then_ (NP.then_ NP.body)) m12 (fun G L => r_slicea (off' := nl) (m := (nl + nd) - nl) (c' := 316 - nl) Tryz.underlying105 Tryz.sizeOf3 (.t m0) (.so (j := nl) (.t m5) rfl) (.so (j := (nl + nd)) (.t m2) rfl) (by first | (show nl ≤ nl + nd; omega) | (show nl + nd ≤ 316; omega)) (by first | (show nl ≤ nl + nd; omega) | (show nl + nd ≤ 316; omega)) (by show (if 316 = nl then 0 else 0 + nl * 1) = nl; rw [if_neg (by omega)]; omega) (by simp) (by simp)) ?_ rfl
  refine TA.sub (ρ' := [(307, (.slice (some ⟨bb, nl, none⟩) dist.length ((316 - nl)))), (302, (.pointer (some ⟨bb, 0, none⟩))), (301, (.pointer (some ⟨bb, 0, none⟩))), (306, (i64 (nl + nd))), (305, (i64 nd)), (304, (i64 nl)), (303, (i64 nl)), (300, (.pointer (some ⟨f, 1035, none⟩))), (299, (.pointer (some ⟨f, 0, none⟩))), (298, (.pointer (some ⟨f, 0, none⟩))), (297, (.pointer (some ⟨f, 520, none⟩))), (296, (.pointer (some ⟨f, 0, none⟩))), (295, (.pointer (some ⟨f, 0, none⟩))), (294, (.bool false)), (293, (.bool false)), (292, (.bool true)), (291, (.slice (some ⟨bb, 0, none⟩) lit.length 316)), (289, (.pointer (some ⟨bb, 0, none⟩))), (288, (.pointer (some ⟨bb, 0, none⟩))), (290, (i64 nl)), (287, (.pointer (some ⟨f, 1035, none⟩))), (286, (.pointer (some ⟨f, 0, none⟩))), (285, (.pointer (some ⟨f, 0, none⟩))), (284, (.pointer (some ⟨f, 5, none⟩))), (283, (.pointer (some ⟨f, 0, none⟩))), (282, (.pointer (some ⟨f, 0, none⟩))), (10, (i64 acc.length)), (11, (i64 (nl + nd))), (6, (i64 many)), (5, (i64 nd)), (4, (i64 nl)), (0, (.pointer (some ⟨f, 0, none⟩)))]) (.eq m0 (congrArg (fun z : Nat => Value.slice (some ⟨bb, nl, none⟩) z _) (show nl + nd - nl = dist.length by omega)) (.sl 1 31 rfl)) ?_
  refine TA.one 26 (by kernel_rfl) ?_
  refine TO.perm p1 ?_
  refine TO.perm p1 ?_
  refine TO.gcall rfl m13 (r_call ce_111 (.cons (.t m10) (.cons (.t m0) .nil))) (fun w hS => t111b_z (s := { s with r := .iface 49 (.pointer (some ⟨r, 0, none⟩)), roff := i6, b := b6, nb := n6, H := H2, bits := .pointer (some ⟨bb, 0, none⟩), cbits := .pointer (some ⟨cb, 0, none⟩) }) hHO2 (blk bb 316 (bbf (lit ++ dist) Fb)) dist bb nl (316 - nl) (bbf_rd hll hl1) (by omega) h15d hz0 hS) ?_ rfl
  rintro _ w308 ⟨H3, rfl, hHO3, hH3, hS⟩
  refine TB.at hS ?_
  refine TA.takeg 27 rfl (by kernel_rfl) (by kernel_rfl) (by kernel_rfl) (NP.then_ (NP.then_ NP.body)) m14 (fun G L => r_nott (.t m0)) ?_ rfl
  refine TA.take 28 rfl (by kernel_rfl) (by kernel_rfl) (by kernel_rfl) (NP.then_ (NP.then_ NP.body)) (fun G L => r_pickf (.t m15) (.t m0)) ?_
  refine TA.done (by kernel_rfl) ?_
  refine EX.sub (.hd (.tl (.tl (.tl (.tl .t24))))) (EX.seq (CT.iff_ m0 ?_))
  refine CT.sub .t1 (CT.skip (EX.seq (CT.seq (CT.seq ?_))))
  have htl3 := htl.ext hH3
  have hm256 := hml3 256 h256
  have he15 := h256.2.2
  have he1 := h256.2.1
  refine CT.still fm (by kernel_rfl) ?_
  refine TS.val (r_move (.t m5)) ?_
  refine TS.val (r_nil (.t m0)) ?_
  refine TS.val (r_fa (off' := 5) fo_103_5 (.t m0)) ?_
  refine TS.val (r_fa (off' := 5) fo_94_0 (.t m0)) ?_
  refine TS.val (r_ldc (v := (i64 tl.mn)) Tryz.isAgg3 (.t m0) (fun w hS => (hS.cell m0 (i := 5) (by decide)).trans (congrArg some ((D_H _ (j := 0) (by decide)).trans (htl3.cells 0 (by decide)))))) ?_
  refine TS.val (r_move (.t m10)) ?_
  refine TS.val (r_nil (.t m0)) ?_
  refine TS.val (r_fa (off' := 1035) fo_103_7 (.t m0)) ?_
  refine TS.val (r_ld (v := (.pointer (some ⟨bb, 0, none⟩))) Tryz.isAgg95 m0 (.t m0) (by decide) (Dget_bits _)) ?_
  refine TS.val (r_nil (.t m0)) ?_
  refine TS.val (r_iaa (i := 256) (off' := 256) Tryz.underlying105 Tryz.sizeOf3 (.t m0) .c rfl (by decide) rfl) ?_
  refine TS.val (r_ld (v := (i64 (lit.getD 256 0))) Tryz.isAgg3 m1 (.t m0) (by decide) (bbf_lit (by omega))) ?_
  refine TS.val (n_lss tl.mn ((lit.getD 256 0)) (.t m7) (.t m0) rfl rfl) ?_
  refine TS.nil ?_
  refine TL.sub (.hd .t12) (TL.e (CT.ifd m0 (fun c328 => ?_) (fun c328 => ?_)))
  ·
   refine CT.sub .t1 (CT.region (TL.m m5 (TL.m m6 (TL.c m0 (TL.f 1035 fo_103_7 m0 (TL.val (r_ld (v := (.pointer (some ⟨bb, 0, none⟩))) Tryz.isAgg95 m0 (.t m0) (by decide) (Dget_bits _)) (TL.c m0 (TL.val (r_iaa (i := 256) (off' := 256) Tryz.underlying105 Tryz.sizeOf3 (.t m0) .c rfl (by decide) rfl) (TL.val (r_ld (v := (i64 (lit.getD 256 0))) Tryz.isAgg3 m1 (.t m0) (by decide) (bbf_lit (by omega))) (TL.c m7 (TL.f 5 fo_103_5 m0 (TL.f 5 fo_94_0 m0 (TL.s (r_st (F' := D { s with r := .iface 49 (.pointer (some ⟨r, 0, none⟩)), roff := i6, b := b6, nb := n6, H := upd H3 0 (i64 (lit.getD 256 0)), bits := .pointer (some ⟨bb, 0, none⟩), cbits := .pointer (some ⟨cb, 0, none⟩) }) Tryz.sizeOf3 (D_min _ _) a0 (.t m0) (.t m3) (by decide)) (TL.sub .t11 (TL.q (TL.val (r_asg .c) (TL.e (CT.ret (EX.perm p5 (EX.conv (fun _ h => h.tail) ?_))))))))))))))))))))
   refine EX.conv (fun _ h => h.emp (A := Lnks ⟨0, fun _ => 0, fun _ _ => 0, 0, 0, .nilFunc⟩) (.inl rfl)) ?_
   exact EX.perm p3 (EX.perm p5 (EX.perm p4 (EX.perm p5 (EX.perm p5 (EX.end_ (.inl rfl) (res1 Tryz.results90 m0) (fun _ hS => ⟨i6, b6, n6, (upd H3 0 (i64 (lit.getD 256 0))), hI3, hHO3.min (by omega), .inr ⟨lit, dist, B.drop kk, { tl with mn := lit.getD 256 0 }, ⟨0, fun _ => 0, fun _ _ => 0, 0, 0, .nilFunc⟩, kk, ho, rfl, hI5, rfl, hI1, hI2, h256, htl3.min he15, rfl, .inr hz0, any2 hS⟩⟩))))))
  refine CT.sub .t1 (CT.skip (EX.q (TL.val (r_asg .c) (TL.e (CT.ret (EX.perm p5 (EX.conv (fun _ h => h.tail) ?_)))))))
  refine EX.conv (fun _ h => h.emp (A := Lnks ⟨0, fun _ => 0, fun _ _ => 0, 0, 0, .nilFunc⟩) (.inl rfl)) ?_
  exact EX.perm p3 (EX.perm p5 (EX.perm p4 (EX.perm p5 (EX.perm p5 (EX.end_ (.inl rfl) (res1 Tryz.results90 m0) (fun _ hS => ⟨i6, b6, n6, H3, hI3, hHO3, .inr ⟨lit, dist, B.drop kk, tl, ⟨0, fun _ => 0, fun _ _ => 0, 0, 0, .nilFunc⟩, kk, ho, rfl, hI5, rfl, hI1, hI2, h256, htl3, (by omega), .inr hz0, any2 hS⟩⟩))))))
 ·
  refine CT.any fm ?_
  refine TA.take 0 rfl (by kernel_rfl) (by kernel_rfl) (by kernel_rfl) (NP.then_ (NP.then_ NP.body)) (fun G L => r_move (.t m5)) ?_
  refine TA.take 1 rfl (by kernel_rfl) (by kernel_rfl) (by kernel_rfl) (NP.then_ (NP.then_ NP.body)) (fun G L => r_nil (.t m0)) ?_
  refine TA.take 2 rfl (by kernel_rfl) (by kernel_rfl) (by kernel_rfl) (NP.then_ (NP.then_ NP.body)) (fun G L => r_fa (off' := 5) fo_103_5 (.t m0)) ?_
  refine TA.take 3 rfl (by kernel_rfl) (by kernel_rfl) (by kernel_rfl) (NP.then_ (NP.then_ NP.body)) (fun G L => r_move (.t m8)) ?_
  refine TA.take 4 rfl (by kernel_rfl) (by kernel_rfl) (by kernel_rfl) (NP.then_ (NP.then_ NP.body)) (fun G L => r_nil (.t m0)) ?_
  refine TA.take 5 rfl (by kernel_rfl) (by kernel_rfl) (by kernel_rfl) (NP.then_ (NP.then_ NP.body)) (fun G L => r_fa (off' := 1035) fo_103_7 (.t m0)) ?_
  refine TA.take 8 rfl (by kernel_rfl) (by kernel_rfl) (by kernel_rfl) (NP.then_ (NP.then_ NP.body)) (fun G L => r_move (.t m10)) ?_
  refine TA.one 6 (by kernel_rfl) ?_
  refine TO.val rfl (r_ld (v := (.pointer (some ⟨bb, 0, none⟩))) Tryz.isAgg95 m0 (.t m1) (by decide) (Dget_bits _)) ?_
  refine TA.take 7 rfl (by kernel_rfl) (by kernel_rfl) (by kernel_rfl) (NP.then_ (NP.then_ NP.body)) (fun G L => r_nil (.t m0)) ?_
  refine TA.take 9 rfl (by kernel_rfl) (by kernel_rfl) (by kernel_rfl) (NP.then_ (NP.then_ NP.body)) (fun G L => r_slicea (off' := 0) (m := nl) (c' := 316) Tryz.underlying105 Tryz.sizeOf3 (.t m0) (.so (j := 0) .c rfl) (.so (j := nl) (.t m2) rfl) (by (try simp) <;> omega) (by (try simp) <;> omega) (by simp) (by simp) (by simp)) ?_
  refine TA.sub (ρ' := [(291, (.slice (some ⟨bb, 0, none⟩) lit.length 316)), (289, (.pointer (some ⟨bb, 0, none⟩))), (288, (.pointer (some ⟨bb, 0, none⟩))), (290, (i64 nl)), (287, (.pointer (some ⟨f, 1035, none⟩))), (286, (.pointer (some ⟨f, 0, none⟩))), (285, (.pointer (some ⟨f, 0, none⟩))), (284, (.pointer (some ⟨f, 5, none⟩))), (283, (.pointer (some ⟨f, 0, none⟩))), (282, (.pointer (some ⟨f, 0, none⟩))), (10, (i64 acc.length)), (11, (i64 (nl + nd))), (6, (i64 many)), (5, (i64 nd)), (4, (i64 nl)), (0, (.pointer (some ⟨f, 0, none⟩)))]) (.eq m0 (by rw [hl1]) (.sl 1 15 rfl)) ?_
  refine TA.one 10 (by kernel_rfl) ?_
  refine TO.perm p2 ?_
  refine TO.perm p1 ?_
  refine TO.call rfl (r_call ce_111 (.cons (.t m7) (.cons (.t m0) .nil))) (fun w hS => t111a_over (s := { s with r := .iface 49 (.pointer (some ⟨r, 0, none⟩)), roff := i6, b := b6, nb := n6, H := H1, bits := .pointer (some ⟨bb, 0, none⟩), cbits := .pointer (some ⟨cb, 0, none⟩) }) hHO1 (blk bb 316 (bbf (lit ++ dist) Fb)) lit bb 0 316 (bbf_rd0 hll) (by omega) h15l hovl hS) ?_
  rintro _ w292 ⟨H2, rfl, hHO2, hS⟩
  refine TB.at hS ?_
  refine TA.take 11 rfl (by kernel_rfl) (by kernel_rfl) (by kernel_rfl) (NP.then_ (NP.then_ NP.body)) (fun G L => r_notf (.t m0)) ?_
  refine TA.take 12 rfl (by kernel_rfl) (by kernel_rfl) (by kernel_rfl) (NP.then_ (NP.then_ NP.body)) (fun G L => r_move (.t m0)) ?_
  refine TA.takegu 13 rfl (by kernel_rfl) (by kernel_rfl) (by kernel_rfl) (NP.then_ (NP.then_ NP.body)) m0 rfl ?_ rfl
  refine TA.takegu 14 rfl (by kernel_rfl) (by kernel_rfl) (by kernel_rfl) (NP.then_ (NP.then_ NP.body)) m1 rfl ?_ rfl
  refine TA.takegu 15 rfl (by kernel_rfl) (by kernel_rfl) (by kernel_rfl) (NP.then_ (NP.then_ NP.body)) m2 rfl ?_ rfl
  refine TA.takegu 16 rfl (by kernel_rfl) (by kernel_rfl) (by kernel_rfl) (NP.then_ (NP.then_ NP.body)) m3 rfl ?_ rfl
  refine TA.takegu 17 rfl (by kernel_rfl) (by kernel_rfl) (by kernel_rfl) (NP.then_ (NP.then_ NP.body)) m4 rfl ?_ rfl
  refine TA.takegu 18 rfl (by kernel_rfl) (by kernel_rfl) (by kernel_rfl) (NP.then_ (NP.then_ NP.body)) m5 rfl ?_ rfl
  refine TA.takegu 19 rfl (by kernel_rfl) (by kernel_rfl) (by kernel_rfl) (NP.then_ (NP.then_ NP.body)) m6 rfl ?_ rfl
  refine TA.takegu 20 rfl (by kernel_rfl) (by kernel_rfl) (by kernel_rfl) (NP.then_ (NP.then_ NP.body)) m7 rfl ?_ rfl
  refine TA.takegu 21 rfl (by kernel_rfl) (by kernel_rfl) (by kernel_rfl) (NP.then_ (NP.then_ NP.body)) m8 rfl ?_ rfl
  refine TA.takegu 22 rfl (by kernel_rfl) (by kernel_rfl) (by kernel_rfl) (NP.then_ (NP.then_ NP.body)) m9 rfl ?_ rfl
  refine TA.takegu 23 rfl (by kernel_rfl) (by kernel_rfl) (by kernel_rfl) (NP.then_ (NP.then_ NP.body)) m10 rfl ?_ rfl
  refine TA.takegu 24 rfl (by kernel_rfl) (by kernel_rfl) (by kernel_rfl) (NP.then_ (NP.then_ NP.body)) m11 rfl ?_ rfl
  refine TA.takegu 25 rfl (by kernel_rfl) (by kernel_rfl) (by kernel_rfl) (NP.then_ (NP.then_ NP.body)) m12 rfl ?_ rfl
  refine TA.takegu 26 rfl (by kernel_rfl) (by kernel_rfl) (by kernel_rfl) (NP.then_ (NP.then_ NP.body)) m13 rfl ?_ rfl
  refine TA.takegu 27 rfl (by kernel_rfl) (by kernel_rfl) (by kernel_rfl) (NP.then_ (NP.then_ NP.body)) m14 rfl ?_ rfl
  refine TA.take 28 rfl (by kernel_rfl) (by kernel_rfl) (by kernel_rfl) (NP.then_ (NP.then_ NP.body)) (fun G L => r_pickt (.t m15) .c) ?_
  refine TA.done (by kernel_rfl) ?_
  refine EX.sub (.hd (.tl (.tl (.tl (.tl .t24))))) (EX.seq (CT.ift m0 ?_))
  refine CT.sub .t1 (CT.q (TL.m m5 (TL.c m0 (TL.f 2 fo_103_2 m0 (TL.val (r_ld (v := (i64 i6)) Tryz.isAgg2 m0 (.t m0) (by decide) (Dget_roff _)) (TL.val (r_mki Tryz.underlying121 (.t m0)) (TL.a m0 (TL.sub (.hd .t5) (TL.e (CT.ret (EX.then_ret (EX.perm p4 (EX.conv (fun _ h => h.tail) ?_)))))))))))))
  exact EX.perm p3 (EX.perm p2 (EX.perm p3 (EX.perm p3 (EX.end_ (.inl rfl) (res1 Tryz.results90 m0) (fun _ hS => ⟨i6, b6, n6, H2, hI3, hHO2, .inl ⟨ho, _, rfl, any2 hS⟩⟩)))))
 refine CT.any fm ?_
 refine TA.take 0 rfl (by kernel_rfl) (by kernel_rfl) (by kernel_rfl) (NP.then_ (NP.then_ NP.body)) (fun G L => r_move (.t m5)) ?_
 refine TA.take 1 rfl (by kernel_rfl) (by kernel_rfl) (by kernel_rfl) (NP.then_ (NP.then_ NP.body)) (fun G L => r_nil (.t m0)) ?_
 refine TA.take 2 rfl (by kernel_rfl) (by kernel_rfl) (by kernel_rfl) (NP.then_ (NP.then_ NP.body)) (fun G L => r_fa (off' := 5) fo_103_5 (.t m0)) ?_
 refine TA.take 3 rfl (by kernel_rfl) (by kernel_rfl) (by kernel_rfl) (NP.then_ (NP.then_ NP.body)) (fun G L => r_move (.t m8)) ?_
 refine TA.take 4 rfl (by kernel_rfl) (by kernel_rfl) (by kernel_rfl) (NP.then_ (NP.then_ NP.body)) (fun G L => r_nil (.t m0)) ?_
 refine TA.take 5 rfl (by kernel_rfl) (by kernel_rfl) (by kernel_rfl) (NP.then_ (NP.then_ NP.body)) (fun G L => r_fa (off' := 1035) fo_103_7 (.t m0)) ?_
 refine TA.take 8 rfl (by kernel_rfl) (by kernel_rfl) (by kernel_rfl) (NP.then_ (NP.then_ NP.body)) (fun G L => r_move (.t m10)) ?_
 refine TA.one 6 (by kernel_rfl) ?_
 refine TO.val rfl (r_ld (v := (.pointer (some ⟨bb, 0, none⟩))) Tryz.isAgg95 m0 (.t m1) (by decide) (Dget_bits _)) ?_
 refine TA.take 7 rfl (by kernel_rfl) (by kernel_rfl) (by kernel_rfl) (NP.then_ (NP.then_ NP.body)) (fun G L => r_nil (.t m0)) ?_
 refine TA.take 9 rfl (by kernel_rfl) (by kernel_rfl) (by kernel_rfl) (NP.then_ (NP.then_ NP.body)) (fun G L => r_slicea (off' := 0) (m := nl) (c' := 316) Tryz.underlying105 Tryz.sizeOf3 (.t m0) (.so (j := 0) .c rfl) (.so (j := nl) (.t m2) rfl) (by (try simp) <;> omega) (by (try simp) <;> omega) (by simp) (by simp) (by simp)) ?_
 refine TA.sub (ρ' := [(291, (.slice (some ⟨bb, 0, none⟩) lit.length 316)), (289, (.pointer (some ⟨bb, 0, none⟩))), (288, (.pointer (some ⟨bb, 0, none⟩))), (290, (i64 nl)), (287, (.pointer (some ⟨f, 1035, none⟩))), (286, (.pointer (some ⟨f, 0, none⟩))), (285, (.pointer (some ⟨f, 0, none⟩))), (284, (.pointer (some ⟨f, 5, none⟩))), (283, (.pointer (some ⟨f, 0, none⟩))), (282, (.pointer (some ⟨f, 0, none⟩))), (10, (i64 acc.length)), (11, (i64 (nl + nd))), (6, (i64 many)), (5, (i64 nd)), (4, (i64 nl)), (0, (.pointer (some ⟨f, 0, none⟩)))]) (.eq m0 (by rw [hl1]) (.sl 1 15 rfl)) ?_
 refine TA.one 10 (by kernel_rfl) ?_
 refine TO.perm p2 ?_
 refine TO.perm p1 ?_
 refine TO.call rfl (r_call ce_111 (.cons (.t m7) (.cons (.t m0) .nil))) (fun w hS => t111a (s := { s with r := .iface 49 (.pointer (some ⟨r, 0, none⟩)), roff := i6, b := b6, nb := n6, H := H1, bits := .pointer (some ⟨bb, 0, none⟩), cbits := .pointer (some ⟨cb, 0, none⟩) }) hHO1 (blk bb 316 (bbf (lit ++ dist) Fb)) lit bb 0 316 (bbf_rd0 hll) (by omega) h15l hfl hS) ?_
 rintro _ w292 ⟨tl, H2, rfl, htl, ⟨hml1, hml2, hml3⟩, hHO2, hS⟩
 refine TB.at hS ?_
 refine TA.take 11 rfl (by kernel_rfl) (by kernel_rfl) (by kernel_rfl) (NP.then_ (NP.then_ NP.body)) (fun G L => r_nott (.t m0)) ?_
 refine TA.take 12 rfl (by kernel_rfl) (by kernel_rfl) (by kernel_rfl) (NP.then_ (NP.then_ NP.body)) (fun G L => r_move (.t m0)) ?_
 refine TA.takeg 13 rfl (by kernel_rfl) (by kernel_rfl) (by kernel_rfl) (NP.then_ (NP.then_ NP.body)) m0 (fun G L => r_move (.t m18)) ?_ rfl
 refine TA.takeg 14 rfl (by kernel_rfl) (by kernel_rfl) (by kernel_rfl) (NP.then_ (NP.then_ NP.body)) m1 (fun G L => r_nil (.t m0)) ?_ rfl
 refine TA.takeg 15 rfl (by kernel_rfl) (by kernel_rfl) (by kernel_rfl) (NP.then_ (NP.then_ NP.body)) m2 (fun G L => r_fa (off' := 520) fo_103_6 (.t m0)) ?_ rfl
 refine TA.takeg 16 rfl (by kernel_rfl) (by kernel_rfl) (by kernel_rfl) (NP.then_ (NP.then_ NP.body)) m3 (fun G L => r_move (.t m21)) ?_ rfl
 refine TA.takeg 17 rfl (by kernel_rfl) (by kernel_rfl) (by kernel_rfl) (NP.then_ (NP.then_ NP.body)) m4 (fun G L => r_nil (.t m0)) ?_ rfl
 refine TA.takeg 18 rfl (by kernel_rfl) (by kernel_rfl) (by kernel_rfl) (NP.then_ (NP.then_ NP.body)) m5 (fun G L => r_fa (off' := 1035) fo_103_7 (.t m0)) ?_ rfl
 refine TA.takeg 21 rfl (by kernel_rfl) (by kernel_rfl) (by kernel_rfl) (NP.then_ (NP.then_ NP.body)) m6 (fun G L => r_move (.t m23)) ?_ rfl
 refine TA.takeg 22 rfl (by kernel_rfl) (by kernel_rfl) (by kernel_rfl) (NP.then_ (NP.then_ NP.body)) m7 (fun G L => r_move (.t m24)) ?_ rfl
 refine TA.takeg 23 rfl (by kernel_rfl) (by kernel_rfl) (by kernel_rfl) (NP.then_ (NP.then_ NP.body)) m8 (fun G L => r_move (.t m24)) ?_ rfl
 refine TA.takeg 24 rfl (by kernel_rfl) (by kernel_rfl) (by kernel_rfl) (NP.then_ (NP.then_ NP.body)) m9 (fun G L => n_add nl nd 9223372036854775808 (.t m1) (.t m0) rfl rfl (by omega)) ?_ rfl
 refine TA.one 19 (by kernel_rfl) ?_
 refine TO.gval rfl m10 (r_ld (v := (.pointer (some ⟨bb, 0, none⟩))) Tryz.isAgg95 m0 (.t m4) (by decide) (Dget_bits _)) ?_ rfl
 refine TA.takeg 20 rfl (by kernel_rfl) (by kernel_rfl) (by kernel_rfl) (NP.then_ (NP.then_ NP.body)) m11 (fun G L => r_nil (.t m0)) ?_ rfl
 refine TA.takeg 25 rfl (by kernel_rfl) (by kernel_rfl) (by kernel_rfl) (NP.then_ (NP.then_ NP.body)) m12 (fun G L => r_slicea (off' := nl) (m := (nl + nd) - nl) (c' := 316 - nl) Tryz.underlying105 Tryz.sizeOf3 (.t m0) (.so (j := nl) (.t m5) rfl) (.so (j := (nl + nd)) (.t m2) rfl) (by first | (show nl ≤ nl + nd; omega) | (show nl + nd ≤ 316; omega)) (by first | (show nl ≤ nl + nd; omega) | (show nl + nd ≤ 316; omega)) (by show (if 316 = nl then 0 else 0 + nl * 1) = nl; rw [if_neg (by omega)]; omega) (by simp) (by simp)) ?_ rfl
 refine TA.sub (ρ' := [(307, (.slice (some ⟨bb, nl, none⟩) dist.length ((316 - nl)))), (302, (.pointer (some ⟨bb, 0, none⟩))), (301, (.pointer (some ⟨bb, 0, none⟩))), (306, (i64 (nl + nd))), (305, (i64 nd)), (304, (i64 nl)), (303, (i64 nl)), (300, (.pointer (some ⟨f, 1035, none⟩))), (299, (.pointer (some ⟨f, 0, none⟩))), (298, (.pointer (some ⟨f, 0, none⟩))), (297, (.pointer (some ⟨f, 520, none⟩))), (296, (.pointer (some ⟨f, 0, none⟩))), (295, (.pointer (some ⟨f, 0, none⟩))), (294, (.bool false)), (293, (.bool false)), (292, (.bool true)), (291, (.slice (some ⟨bb, 0, none⟩) lit.length 316)), (289, (.pointer (some ⟨bb, 0, none⟩))), (288, (.pointer (some ⟨bb, 0, none⟩))), (290, (i64 nl)), (287, (.pointer (some ⟨f, 1035, none⟩))), (286, (.pointer (some ⟨f, 0, none⟩))), (285, (.pointer (some ⟨f, 0, none⟩))), (284, (.pointer (some ⟨f, 5, none⟩))), (283, (.pointer (some ⟨f, 0, none⟩))), (282, (.pointer (some ⟨f, 0, none⟩))), (10, (i64 acc.length)), (11, (i64 (nl + nd))), (6, (i64 many)), (5, (i64 nd)), (4, (i64 nl)), (0, (.pointer (some ⟨f, 0, none⟩)))]) (.eq m0 (congrArg (fun z : Nat => Value.slice (some ⟨bb, nl, none⟩) z _) (show nl + nd - nl = dist.length by omega)) (.sl 1 31 rfl)) ?_
 refine TA.one 26 (by kernel_rfl) ?_
 refine TO.perm p1 ?_
 refine TO.perm p1 ?_
 refine TO.gcall rfl m13 (r_call ce_111 (.cons (.t m10) (.cons (.t m0) .nil))) (fun w hS => t111b_over (s := { s with r := .iface 49 (.pointer (some ⟨r, 0, none⟩)), roff := i6, b := b6, nb := n6, H := H2, bits := .pointer (some ⟨bb, 0, none⟩), cbits := .pointer (some ⟨cb, 0, none⟩) }) hHO2 (blk bb 316 (bbf (lit ++ dist) Fb)) dist bb nl (316 - nl) (bbf_rd hll hl1) (by omega) h15d hovd hS) ?_ rfl
 rintro _ w308 ⟨H3, rfl, hHO3, hS⟩
 refine TB.at hS ?_
 refine TA.takeg 27 rfl (by kernel_rfl) (by kernel_rfl) (by kernel_rfl) (NP.then_ (NP.then_ NP.body)) m14 (fun G L => r_notf (.t m0)) ?_ rfl
 refine TA.take 28 rfl (by kernel_rfl) (by kernel_rfl) (by kernel_rfl) (NP.then_ (NP.then_ NP.body)) (fun G L => r_pickf (.t m15) (.t m0)) ?_
 refine TA.done (by kernel_rfl) ?_
 refine EX.sub (.hd (.tl (.tl (.tl (.tl .t24))))) (EX.seq (CT.ift m0 ?_))
 refine CT.sub .t1 (CT.q (TL.m m5 (TL.c m0 (TL.f 2 fo_103_2 m0 (TL.val (r_ld (v := (i64 i6)) Tryz.isAgg2 m0 (.t m0) (by decide) (Dget_roff _)) (TL.val (r_mki Tryz.underlying121 (.t m0)) (TL.a m0 (TL.sub (.hd .t5) (TL.e (CT.ret (EX.then_ret (EX.perm p2 (EX.conv (fun _ h => h.tail) ?_)))))))))))))
 refine EX.perm p4 (EX.conv (fun _ h => h.tail) ?_)
 exact EX.perm p3 (EX.perm p2 (EX.perm p3 (EX.perm p3 (EX.end_ (.inl rfl) (res1 Tryz.results90 m0) (fun _ hS => ⟨i6, b6, n6, H3, hI3, hHO3, .inl ⟨ho, _, rfl, any2 hS⟩⟩)))))
end Go.Eng
namespace Go.Infl
inductive Blk3 (fin : Bool) (k : Nat) (h : List Nat) (hF : List Nat × Bool) : Nat → List Bool → Prop
 | stored {ps rest : List Bool} {xs : List Nat} : ps.length < 8 → (k + 3 + ps.length) % 8 = 0 → xs.length ≤ 65535 → (∀ x ∈ xs, x < 256) → (h ++ xs).length ≤ hF.1.length → After fin (k + 3 + ps.length + 32 + 8 * xs.length) rest (h ++ xs) hF →
  Blk3 fin k h hF 0 (ps ++ (nbits 16 xs.length ++ (nbits 16 (65535 - xs.length) ++ (xs.flatMap (nbits 8) ++ rest))))
 | notLen {ps rest : List Bool} {n m : Nat} : ps.length < 8 → (k + 3 + ps.length) % 8 = 0 → n < 65536 → m < 65536 → n + m ≠ 65535 → hF = (h, false) → Blk3 fin k h hF 0 (ps ++ (nbits 16 n ++ (nbits 16 m ++ rest)))
 | fixed {rest : List Bool} : HTail fixLit fixDist fin (k + 3) rest h hF → Blk3 fin k h hF 1 rest
 | dyn {own : List Nat} {nl nd : Nat} {hb bits : List Bool} {o : Option (List Nat × List Nat × List Bool)} : OwnHd hb own nl nd → HdrR own nl nd bits o → (o = none → hF = (h, false)) →
  (∀ lit dist r kk, o = some (lit, dist, r) → kk + r.length = k + 3 + hb.length + bits.length → HTail lit dist fin kk r h hF) → Blk3 fin k h hF 2 (hb ++ bits)
 | type3 {rest : List Bool} : hF = (h, false) → Blk3 fin k h hF 3 rest
theorem BadSym.app {ls ds : List Nat} {n : Nat} {tl : List Bool} (H : BadSym ls ds n tl) (tail : List Bool) : BadSym ls ds n (tl ++ tail) := by
 cases H with
 | never a b => rw [List.append_assoc]; exact .never a b
 | neverD a b c d => simp only [List.append_assoc]; exact .neverD a b c d
 | far a b c d e => simp only [List.append_assoc]; exact .far a b c d e
theorem after_of {fin : Bool} {pos : Nat} {rest tail : List Bool} {h : List Nat} {hF : List Nat × Bool} (h1 : fin = true → rest = [] ∧ h = hF.1 ∧ hF.2 = true) (h2 : fin = false → Strm pos rest h hF) : After fin pos (rest ++ tail) h hF :=
 ⟨fun e => (h1 e).2, fun e => ⟨rest, tail, rfl, h2 e⟩⟩
theorem IsBad.blk3 {k : Nat} {st : List Bool} {h hg : List Nat} (hb : IsBad k h st hg) (tail : List Bool) : ∃ fin typ rest, st ++ tail = nbits 3 (Bool.toNat fin + 2 * typ) ++ rest ∧ typ ≤ 3 ∧ Blk3 fin k h (hg, false) typ rest := by
 cases hb with
 | @type3 _ f rest => exact ⟨f, 3, rest ++ tail, by simp only [List.append_assoc], by decide, .type3 rfl⟩
 | @notLen n m _ f ps rest a1 a2 a3 a4 a5 => exact ⟨f, 0, ps ++ (nbits 16 n ++ (nbits 16 m ++ (rest ++ tail))), by simp only [List.append_assoc]; rfl, by decide, .notLen a1 a2 a3 a4 a5 rfl⟩
 | @huff _ f hd b1 tl ls ds its a1 a2 a3 a4 a5 =>
  have ht : ∀ kk, HTail ls ds f kk (b1 ++ (tl ++ tail)) h (gives h its, false) := fun kk =>
   ⟨its, b1, tl ++ tail, rfl, a2, a3, .inr ⟨rfl, a4.app tail, by rw [List.length_append]; omega⟩⟩
  cases a1 with
  | fixed => exact ⟨f, 1, b1 ++ (tl ++ tail), by simp only [List.append_assoc], by decide, .fixed (ht _)⟩
  | @dyn hb _ _ c1 c2 c3 =>
   obtain ⟨own, hb0, bits, e1, e2, e3⟩ := HdrR.good (rest := b1 ++ (tl ++ tail)) c1 c2 c3
   refine ⟨f, 2, hb0 ++ bits, by rw [← e1]; simp only [List.append_assoc], by decide, .dyn e2 e3 (fun h => by cases h) fun lit dist r kk ho hk => ?_⟩
   cases ho
   exact ht kk
 | @own nl nd _ f hb rest own a1 a2 => exact ⟨f, 2, hb ++ (rest ++ tail), by simp only [List.append_assoc], by decide, .dyn a1 (.inl ⟨a2, rfl⟩) (fun _ => rfl) (fun _ _ _ _ h => by cases h)⟩
 | @run nl nd kq v _ f hb rb rest own acc a1 a2 a3 a4 a5 a6 a7 =>
  refine ⟨f, 2, hb ++ (rb ++ (symB own kq ++ (nbits (rnBits kq) v ++ (rest ++ tail)))), by simp only [List.append_assoc], by decide, .dyn a1 (.inr ⟨a2, .inr ⟨rfl, rb, acc, kq, v, rest ++ tail, rfl, a3, a4, a5, a6, a7⟩⟩) (fun _ => rfl) (fun _ _ _ _ h => by cases h)⟩
 | @over _ f hb rest lit dist a1 a2 =>
  obtain ⟨own, hb0, bits, e1, e2, e3⟩ := HdrR.over (rest := rest ++ tail) a1 a2
  exact ⟨f, 2, hb0 ++ bits, by rw [← e1]; simp only [List.append_assoc], by decide, .dyn e2 e3 (fun _ => rfl) (fun _ _ _ _ h => by cases h)⟩
theorem Strm.blk3 {k : Nat} {st : List Bool} {h : List Nat} {hF : List Nat × Bool} (H : Strm k st h hF) (tail : List Bool) : ∃ fin typ rest, st ++ tail = nbits 3 (Bool.toNat fin + 2 * typ) ++ rest ∧ typ ≤ 3 ∧ Blk3 fin k h hF typ rest := by
 rcases H.head with ⟨fin, b, rest, h1, rfl, hb, hle, hf1, hf2⟩ | ⟨hbad, hb⟩
 ·
  cases hb with
  | @stored ps xs a1 a2 a3 a4 =>
   refine ⟨fin, 0, ps ++ (nbits 16 xs.length ++ (nbits 16 (65535 - xs.length) ++ (xs.flatMap (nbits 8) ++ (rest ++ tail)))), by unfold storedBits; simp only [List.append_assoc]; rfl, by decide, .stored a1 a2 a3 a4 hle ?_⟩
   refine after_of hf1 fun e => ?_
   have := hf2 e
   rwa [storedBits_length, show k + (35 + ps.length + 8 * xs.length) = k + 3 + ps.length + 32 + 8 * xs.length by omega] at this
  | @huff hd b1 ls ds its a1 a2 a3 =>
   have ht : ∀ kk, kk = k + hd.length → HTail ls ds fin kk (b1 ++ (symB ls 256 ++ (rest ++ tail))) h hF := fun kk hk => by
    refine ⟨its, b1, symB ls 256 ++ (rest ++ tail), rfl, a2, a3, .inl ⟨rest ++ tail, rfl, after_of hf1 fun e => ?_⟩⟩
    have := hf2 e
    rwa [List.length_append, List.length_append, symB_length, ← Nat.add_assoc, ← Nat.add_assoc, ← hk] at this
   cases a1 with
   | fixed =>
    refine ⟨fin, 1, b1 ++ (symB fixLit 256 ++ (rest ++ tail)), by simp only [List.append_assoc], by decide, .fixed (ht _ (by rw [nbits_length]))⟩
   | @dyn hb _ _ c1 c2 c3 =>
    obtain ⟨own, hb0, bits, e1, e2, e3⟩ := HdrR.good (rest := b1 ++ (symB ls 256 ++ (rest ++ tail))) c1 c2 c3
    refine ⟨fin, 2, hb0 ++ bits, by rw [← e1]; simp only [List.append_assoc], by decide, .dyn e2 e3 (fun h => by cases h) fun lit dist r kk ho hk => ?_⟩
    cases ho
    refine ht kk ?_
    have := congrArg List.length e1
    simp only [List.length_append, nbits_length] at this hk ⊢
    omega
 obtain ⟨hg, gd⟩ := hF
 obtain rfl : gd = false := hbad
 exact hb.blk3 tail
end Go.Infl
namespace Go.Eng
open Go Go.Proofs Go.Infl
theorem fix_l256 : LOk fixLit 256 := fix_lit (by decide)
theorem ent_of {B : List Bool} {hF : List Nat × Bool} {del h : List Nat} {s s' : DS} {ls ds : List Nat} {mu0 : Nat} {x : HX} (hz : s.ss = 1 → s.cl = 0) (hsd : SSd s h) (hx : HI B del s' (ls.getD 256 0) x) (ht : HTail ls ds s'.final x.k (B.drop x.k) x.h hF) (hmu : 1000 * (B.length - x.k) + 2 ≤ mu0)
 (e1 : s'.ss = s.ss := by rfl) (e2 : x.cl = s.cl := by rfl) (e3 : x.cd = s.cd := by rfl) (e4 : x.h = h := by rfl) : (s'.ss = 0 ∧ HI0 B hF del s' ls ds mu0 x) ∨ (s'.ss = 1 ∧ HI1 B hF del s' ls ds mu0 x) := by
 rcases hsd with h0 | ⟨h0, h1, h2, h3⟩
 ·
  exact .inl ⟨by omega, ⟨hx, ht, by omega, fun e => by omega⟩⟩
 have hc : x.cl = 0 := by rw [e2]; exact hz h0
 exact .inr ⟨by omega, ⟨hx, by rw [hc]; exact ht, by omega, by omega, by rw [e4]; omega, by omega, by omega⟩⟩
theorem data_zero {G w : World} {R : List HProp} {bb cb f r hb i : Nat} {B : List Bool} {hF : List Nat × Bool} {del un xs : List Nat} {ea : Addr} {s : DS} {hist : Nat → Nat} {rest : List Bool} {mu0 c0 c1 c2 c3 : Nat}
 (H : Base bb cb r hb B s i hist (del ++ un)) (hu : un.length = s.wr - s.rd) (herr : s.err = .nilIface) (hsz : s.ss = 1 → s.cl = 0) (hd : B.drop (8 * (i + 4)) = xs.flatMap (nbits 8) ++ rest) (hx0 : xs = []) (ha : After s.final (8 * (i + 4) + 8 * xs.length) rest (del ++ un ++ xs) hF) (hl : 8 * i + 32 ≤ B.length) (hmu : 1000 * (B.length - 8 * i) ≤ mu0)
 (hS : Sat G w (blk f 1054 (D (finS { s with r := .iface 49 (.pointer (some ⟨r, 0, none⟩)), hist := .slice (some ⟨hb, 0, none⟩) 32768 32768, err := .nilIface, roff := s.roff + 4, b := 0, nb := 0, b0 := c0, b1 := c1, b2 := c2, b3 := c3, wr := s.wr % 32768, rd := s.wr % 32768, full := s.full || decide (s.wr = 32768), toRead := .slice (some ⟨hb, s.rd, none⟩) (s.wr - s.rd) (32768 - s.rd) } hb (.iface 187 (.pointer (some ea))))) ::
  Br r B (i + 4) :: blk hb 32768 (fun j => u8 (hist j)) :: R)) : RS true G R bb cb f r hb B hF (.iface 187 (.pointer (some ea))) del (· < mu0) w := by
 subst hx0
 rw [List.append_nil, List.length_nil, Nat.mul_zero, Nat.add_zero] at ha
 have h1 := H.rw_; have h2 := H.wl; have h3 := H.ro; have h4 := H.il
 have hpl := pack_length B
 have htr : TR hb hist (.slice (some ⟨hb, s.rd, none⟩) (s.wr - s.rd) (32768 - s.rd)) un := .inr ⟨s.rd, 32768 - s.rd, by rw [hu], by omega, by omega, H.win.tail H.rw_ hu⟩
 cases hfin : s.final with
 | false =>
  rw [show finS _ hb _ = _ from if_neg (by simp [hfin])] at hS
  obtain ⟨st, tail, e1, e2⟩ := ha.2 hfin
  refine ⟨_, i + 4, hist, del ++ un, un, [], ⟨rfl, rfl, H.win.flush, Nat.le_refl _, Nat.mod_lt _ (by decide), by show s.roff + 4 = i + 4; omega, by omega, (by exact H.ex), (by exact H.sd)⟩, by rw [List.append_nil], (Nat.sub_self _).symm, htr, .inl ⟨rfl, 1000 * (B.length - 8 * (i + 4)), by show _ < mu0; omega, plEmp ?_ hS⟩⟩
  intro m'
  exact .blk (k := 8 * (i + 4)) (st := st) (tail := tail) rfl (Nat.zero_le _) (Held.zero (i := i + 4)) (by rw [hd]; exact e1) e2 rfl hsz
 | true =>
  rw [show finS _ hb _ = _ from if_pos (by simp [hfin])] at hS
  rw [if_neg (Nat.lt_irrefl _)] at hS
  exact ⟨_, i + 4, hist, del ++ un, un, [], ⟨rfl, rfl, H.win.flush, Nat.le_refl _, Nat.mod_lt _ (by decide), by show s.roff + 4 = i + 4; omega, by omega, (by exact H.ex), (by exact H.sd)⟩, by rw [List.append_nil], (Nat.sub_self _).symm, htr, .inr ⟨.inl ⟨(ha.1 hfin).2, rfl⟩, (ha.1 hfin).1, .inl rfl, hS⟩⟩
theorem t87 {G : World} {R : List HProp} {w : World} {bb cb f r hb i : Nat} {B : List Bool} {hF : List Nat × Bool} {del un : List Nat} {ea : Addr} {s : DS} {hist : Nat → Nat} {mu0 : Nat} (hE : EOFIs G ea) (hBl : B.length < 1099511627776) (H : Base bb cb r hb B s i hist (del ++ un)) (hu : un.length = s.wr - s.rd) (htr : TR hb hist s.toRead []) (herr : s.err = .nilIface) (hsz : s.ss = 1 → s.cl = 0) {n m : Nat} {tl : List Bool} (hn : n < 65536) (hm : m < 65536) (hd : B.drop (8 * i) = nbits 16 n ++ (nbits 16 m ++ tl)) (hc : (n + m ≠ 65535 ∧ hF = (del ++ un, false)) ∨ (n + m = 65535 ∧ ∃ (xs : List Nat) (rest : List Bool), n = xs.length ∧ tl = xs.flatMap (nbits 8) ++ rest ∧ (∀ x ∈ xs, x < 256) ∧ After s.final (8 * (i + 4) + 8 * xs.length) rest (del ++ un ++ xs) hF)) (hmu : 1000 * (B.length - 8 * i) ≤ mu0)
 (hS : Sat G w (blk f 1054 (D s) :: Br r B i :: blk hb 32768 (fun j => u8 (hist j)) :: R)) : CallsR Tryz.prog 87 #[.pointer (some ⟨f, 0, none⟩)] w (fun _ w' => Sat G w' (RSA true bb cb f r hb B hF (.iface 187 (.pointer (some ea))) del (· < mu0) :: R)) := by
 have hlen := congrArg List.length hd
 simp only [List.length_drop, List.length_append, nbits_length] at hlen
 have hpl := pack_length B
 have h1 := H.rw_; have h2 := H.wl; have h3 := H.ro; have h4 := H.il
 have hd4 : B.drop (8 * (i + 4)) = tl := by
  have e1 := drop_app hd
  have e2 := drop_app e1
  rw [nbits_length, nbits_length] at e2
  exact e2
 have h4b : ((pack B).drop i).take 4 = [(n % 256), (n / 256), (m % 256), (m / 256)] := by
  refine bytes_at (xs := [(n % 256), (n / 256), (m % 256), (m / 256)]) (m := 4) (rest := tl) ?_ ?_ (Nat.le_refl 4)
  ·
   rw [hd, nbits16 n, nbits16 m]; simp [List.flatMap]
  intro x hx; simp only [List.mem_cons, List.not_mem_nil, or_false] at hx; omega
 have hs : s = { s with r := .iface 49 (.pointer (some ⟨r, 0, none⟩)), hist := .slice (some ⟨hb, 0, none⟩) 32768 32768, err := .nilIface } := by have h5 := H.r_; have h6 := H.hi; cases s; simp_all
 replace hS := hS.D hs
 refine calls_in (n := 98) [(0, (.pointer (some ⟨f, 0, none⟩)))] Tryz.func87 rfl rfl hS args1 ?_
 refine CT.q (TL.m m0 (TL.c m0 (TL.f 4 fo_103_4 m0 (TL.s (r_st (F' := D { s with r := .iface 49 (.pointer (some ⟨r, 0, none⟩)), nb := 0, hist := .slice (some ⟨hb, 0, none⟩) 32768 32768, err := .nilIface }) Tryz.sizeOf90 (Dsat_nb 0) a0 (.t m0) .c (by decide)) (TL.sub .t3 (TL.q (TL.m m0 (TL.c m0 (TL.f 3 fo_103_3 m0 (TL.s (r_st (F' := D { s with r := .iface 49 (.pointer (some ⟨r, 0, none⟩)), b := 0, nb := 0, hist := .slice (some ⟨hb, 0, none⟩) 32768 32768, err := .nilIface }) Tryz.sizeOf89 (Dsat_b 0) a0 (.t m0) .c (by decide)) (TL.sub .t3 (TL.e (CT.seq (CT.any fm ?_))))))))))))))
 refine TA.take 0 rfl (by kernel_rfl) (by kernel_rfl) (by kernel_rfl) (NP.then_ NP.body) (fun G L => r_move (.t m0)) ?_
 refine TA.take 1 rfl (by kernel_rfl) (by kernel_rfl) (by kernel_rfl) (NP.then_ NP.body) (fun G L => r_nil (.t m0)) ?_
 refine TA.take 2 rfl (by kernel_rfl) (by kernel_rfl) (by kernel_rfl) (NP.then_ NP.body) (fun G L => r_fa (off' := 0) fo_103_0 (.t m0)) ?_
 refine TA.take 4 rfl (by kernel_rfl) (by kernel_rfl) (by kernel_rfl) (NP.then_ NP.body) (fun G L => r_move (.t m3)) ?_
 refine TA.take 5 rfl (by kernel_rfl) (by kernel_rfl) (by kernel_rfl) (NP.then_ NP.body) (fun G L => r_nil (.t m0)) ?_
 refine TA.take 6 rfl (by kernel_rfl) (by kernel_rfl) (by kernel_rfl) (NP.then_ NP.body) (fun G L => r_fa (off' := 1041) fo_103_10 (.t m0)) ?_
 refine TA.take 7 rfl (by kernel_rfl) (by kernel_rfl) (by kernel_rfl) (NP.then_ NP.body) (fun G L => r_slicea (off' := 1041) (m := 4) (c' := 4) Tryz.underlying99 Tryz.sizeOf5 (.t m0) (.so (j := 0) .c rfl) (.so (j := 4) .c rfl) (by decide) (by decide) (by simp) (by simp) (by simp)) ?_
 refine TA.one 3 (by kernel_rfl) ?_
 refine TO.val rfl (r_ld (v := (.iface 49 (.pointer (some ⟨r, 0, none⟩)))) Tryz.isAgg87 m0 (.t m4) (by decide) (Dget_r _)) ?_
 refine TA.one 8 (by kernel_rfl) ?_
 refine TO.perm p1 ?_
 refine TO.call rfl (r_call ce_107 (.cons (.t m0) (.cons (.t m1) .nil))) (fun w hS => t107 r i f 1041 1054 4 4 (D { s with r := .iface 49 (.pointer (some ⟨r, 0, none⟩)), b := 0, nb := 0, hist := .slice (some ⟨hb, 0, none⟩) 32768 32768, err := .nilIface }) B (by omega) (by omega) (by decide) (by omega) hS) ?_
 rintro _ w21 ⟨rfl, hS⟩
 refine TB.at hS ?_
 refine TA.take 9 rfl (by kernel_rfl) (by kernel_rfl) (by kernel_rfl) (NP.then_ NP.body) (fun G L => r_move (.t m0)) ?_
 refine TA.take 10 rfl (by kernel_rfl) (by kernel_rfl) (by kernel_rfl) (NP.then_ NP.body) (fun G L => r_ext (.t m0)) ?_
 refine TA.take 11 rfl (by kernel_rfl) (by kernel_rfl) (by kernel_rfl) (NP.then_ NP.body) (fun G L => r_ext (.t m1)) ?_
 refine TA.take 12 rfl (by kernel_rfl) (by kernel_rfl) (by kernel_rfl) (NP.then_ NP.body) (fun G L => r_asg (.t m1)) ?_
 refine TA.take 13 rfl (by kernel_rfl) (by kernel_rfl) (by kernel_rfl) (NP.then_ NP.body) (fun G L => r_asg (.t m1)) ?_
 refine TA.done (by kernel_rfl) ?_
 refine EX.sub (.hd (.hd .t12)) (EX.seq (CT.seq (CT.fold (A' := (blk f 1054 (D { s with r := .iface 49 (.pointer (some ⟨r, 0, none⟩)), b := 0, nb := 0, hist := .slice (some ⟨hb, 0, none⟩) 32768 32768, b0 := n % 256, b1 := n / 256, b2 := m % 256, b3 := m / 256, err := .nilIface }))) a1 (blk_eq rfl (by rw [h4b]; exact buf4)) (CT.region (TL.m m2 (TL.c m0 (TL.f 2 fo_103_2 m0 (TL.val (r_ld (v := (i64 s.roff)) Tryz.isAgg2 m1 (.t m0) (by decide) (Dget_roff _)) (TL.m m5 (TL.val (n_add s.roff 4 9223372036854775808 (.t m1) (.t m0) rfl rfl (by omega)) (TL.c m5 (TL.f 2 fo_103_2 m0 (TL.s (r_st (F' := D { s with r := .iface 49 (.pointer (some ⟨r, 0, none⟩)), roff := s.roff + 4, b := 0, nb := 0, hist := .slice (some ⟨hb, 0, none⟩) 32768 32768, b0 := n % 256, b1 := n / 256, b2 := m % 256, b3 := m / 256, err := .nilIface }) Tryz.sizeOf2 (Dsat_roff ((s.roff + 4))) a1 (.t m0) (.t m2) (by decide)) (TL.sub (.tl (.tl (.tl (.tl (.tl (.tl (.tl (.tl (.hd .t1))))))))) (TL.e (CT.seq (CT.q (TL.m m0 (TL.val (r_nen Tryz.underlying82 (.t m0)) (TL.sub (.hd .t1) (TL.e (CT.iff_ m0 ?_))))))))))))))))))))))
 refine CT.sub .t1 (CT.skip (EX.seq (CT.seq (CT.still fm (by kernel_rfl) ?_))))
 refine TS.val (r_move (.t m1)) ?_
 refine TS.val (r_nil (.t m0)) ?_
 refine TS.val (r_fa (off' := 1041) fo_103_10 (.t m0)) ?_
 refine TS.val (r_iaa (i := 0) (off' := 1041) Tryz.underlying99 Tryz.sizeOf5 (.t m0) .c rfl (by omega) rfl) ?_
 refine TS.val (r_ld (v := (u8 (n % 256))) Tryz.isAgg5 m1 (.t m0) (by decide) (Dget_b0 _)) ?_
 refine TS.val (n_conv ((n % 256)) 9223372036854775808 ⟨_, Tryz.underlying5⟩ Tryz.underlying3 (.t m0) rfl (by omega)) ?_
 refine TS.val (r_move (.t m7)) ?_
 refine TS.val (r_nil (.t m0)) ?_
 refine TS.val (r_fa (off' := 1041) fo_103_10 (.t m0)) ?_
 refine TS.val (r_iaa (i := 1) (off' := 1042) Tryz.underlying99 Tryz.sizeOf5 (.t m0) .c rfl (by omega) rfl) ?_
 refine TS.val (r_ld (v := (u8 (n / 256))) Tryz.isAgg5 m1 (.t m0) (by decide) (Dget_b1 _)) ?_
 refine TS.val (n_conv ((n / 256)) 9223372036854775808 ⟨_, Tryz.underlying5⟩ Tryz.underlying3 (.t m0) rfl (by omega)) ?_
 refine TS.val (n_shl ((n / 256)) 8 9223372036854775808 (.t m0) .c rfl rfl (by decide) (by omega)) ?_
 refine TS.val (n_or ((n % 256)) (((n / 256) * 2 ^ 8)) 9223372036854775808 (.t m7) (.t m0) rfl rfl (by omega) (by omega)) ?_
 refine TS.val (r_asg (.t m0)) ?_
 refine TS.nil ?_
 refine TL.sub (.hd .t14) (TL.sub (.eq m0 (congrArg (fun z : Nat => Value.int .i64 (z : Int)) or16) (.cons m1 (.cons m2 .nil))) (TL.e (CT.seq (CT.still fm (by kernel_rfl) ?_))))
 refine TS.val (r_move (.t m2)) ?_
 refine TS.val (r_nil (.t m0)) ?_
 refine TS.val (r_fa (off' := 1041) fo_103_10 (.t m0)) ?_
 refine TS.val (r_iaa (i := 2) (off' := 1043) Tryz.underlying99 Tryz.sizeOf5 (.t m0) .c rfl (by omega) rfl) ?_
 refine TS.val (r_ld (v := (u8 (m % 256))) Tryz.isAgg5 m1 (.t m0) (by decide) (Dget_b2 _)) ?_
 refine TS.val (n_conv ((m % 256)) 9223372036854775808 ⟨_, Tryz.underlying5⟩ Tryz.underlying3 (.t m0) rfl (by omega)) ?_
 refine TS.val (r_move (.t m8)) ?_
 refine TS.val (r_nil (.t m0)) ?_
 refine TS.val (r_fa (off' := 1041) fo_103_10 (.t m0)) ?_
 refine TS.val (r_iaa (i := 3) (off' := 1044) Tryz.underlying99 Tryz.sizeOf5 (.t m0) .c rfl (by omega) rfl) ?_
 refine TS.val (r_ld (v := (u8 (m / 256))) Tryz.isAgg5 m1 (.t m0) (by decide) (Dget_b3 _)) ?_
 refine TS.val (n_conv ((m / 256)) 9223372036854775808 ⟨_, Tryz.underlying5⟩ Tryz.underlying3 (.t m0) rfl (by omega)) ?_
 refine TS.val (n_shl ((m / 256)) 8 9223372036854775808 (.t m0) .c rfl rfl (by decide) (by omega)) ?_
 refine TS.val (n_or ((m % 256)) (((m / 256) * 2 ^ 8)) 9223372036854775808 (.t m7) (.t m0) rfl rfl (by omega) (by omega)) ?_
 refine TS.val (r_asg (.t m0)) ?_
 refine TS.nil ?_
 refine TL.sub (.hd .t14) (TL.sub (.eq m0 (congrArg (fun z : Nat => Value.int .i64 (z : Int)) or16) (.cons m1 (.cons m2 (.cons m3 .nil)))) (TL.e (CT.seq (CT.q (TL.m m0 (TL.val (n_conv m 65536 ⟨_, Tryz.underlying3⟩ Tryz.underlying159 (.t m0) rfl (by omega)) (TL.m m3 (TL.val (r_compl (.t m0) (by omega)) (TL.val (r_conv (z := (((65535 - n) : Nat) : Int)) ⟨_, Tryz.underlying3⟩ Tryz.underlying159 (.t m0) (conv16 (by omega))) (TL.val (n_neq m ((65535 - n)) (.t m3) (.t m0) rfl rfl) (TL.sub (.hd .t6) (TL.e (CT.ifd m0 (fun c72 => ?_) (fun c72 => ?_))))))))))))))
 ·
  have he : hF = (del ++ un, false) := by rcases hc with ⟨_, h⟩ | ⟨h, _⟩ <;> first | exact h | omega
  exact CT.sub .t1 (CT.q (TL.m m2 (TL.m m3 (TL.c m0 (TL.f 2 fo_103_2 m0 (TL.val (r_ld (v := (i64 (s.roff + 4))) Tryz.isAgg2 m1 (.t m0) (by decide) (Dget_roff _)) (TL.val (r_mki Tryz.underlying121 (.t m0)) (TL.c m5 (TL.f 1048 fo_103_14 m0 (TL.s (r_st (F' := D { s with r := .iface 49 (.pointer (some ⟨r, 0, none⟩)), roff := s.roff + 4, b := 0, nb := 0, hist := .slice (some ⟨hb, 0, none⟩) 32768 32768, b0 := n % 256, b1 := n / 256, b2 := m % 256, b3 := m / 256, err := .iface 121 (i64 (s.roff + 4)) }) Tryz.sizeOf82 (Dsat_err (.iface 121 (i64 (s.roff + 4)))) a1 (.t m0) (.t m2) (by decide)) (TL.sub .t8 (TL.e (CT.ret (EX.then_ret (EX.perm p2 (EX.perm p1 (EX.perm p2 (EX.end_ (.inl rfl) (res0 Tryz.results87) (fun _ hS => hb_err (ea := ea) (R := R) (s' := { s with r := .iface 49 (.pointer (some ⟨r, 0, none⟩)), roff := s.roff + 4, b := 0, nb := 0, hist := .slice (some ⟨hb, 0, none⟩) 32768 32768, b0 := n % 256, b1 := n / 256, b2 := m % 256, b3 := m / 256, err := .iface 121 (i64 (s.roff + 4)) }) (TB := []) rfl rfl htr rfl (by show s.roff + 4 = i + 4; omega) H.ex H.win H.rw_ H.wl ⟨un, rfl, hu⟩ (by omega) (H.sd.mono (Nat.le_refl _)) he hS)))))))))))))))))))
 obtain ⟨xs, rest, hxn, htl, hx, ha⟩ : ∃ (xs : List Nat) (rest : List Bool), n = xs.length ∧ tl = xs.flatMap (nbits 8) ++ rest ∧ (∀ x ∈ xs, x < 256) ∧ After s.final (8 * (i + 4) + 8 * xs.length) rest (del ++ un ++ xs) hF := by rcases hc with ⟨h, _⟩ | ⟨_, h⟩ <;> first | exact h | omega
 rw [htl] at hd4
 refine CT.sub .t1 (CT.skip (EX.seq (CT.seq (CT.q (TL.m m0 (TL.val (n_eql n 0 (.t m0) .c rfl rfl) (TL.sub (.hd .t1) (TL.e (CT.ifd m0 (fun c82 => ?_) (fun c82 => ?_))))))))))
 ·
  have hx0 : xs = [] := List.length_eq_zero_iff.1 (by omega)
  refine CT.sub .t1 (CT.q (TL.m m2 (TL.m m3 (TL.c m0 (TL.f 1037 fo_103_9 m0 (TL.perm p1 (TL.call (r_call ce_108 (.cons (.t m0) .nil)) (fun w hS => t108 f hb { s with r := .iface 49 (.pointer (some ⟨r, 0, none⟩)), roff := s.roff + 4, b := 0, nb := 0, hist := .slice (some ⟨hb, 0, none⟩) 32768 32768, b0 := n % 256, b1 := n / 256, b2 := m % 256, b3 := m / 256, err := .nilIface } (by show s.rd ≤ s.wr; omega) (by show s.wr ≤ 32768; omega) (by show s.rd < 32768; omega) hS) ?_)))))))
  rintro z87 w87 ⟨hz87, hS⟩
  replace hz87 : z87 = (.slice (some ⟨hb, s.rd, none⟩) ((s.wr - s.rd)) ((32768 - s.rd))) := hz87
  subst hz87
  replace hS : Sat G w87 (blk f 1054 (D { s with r := .iface 49 (.pointer (some ⟨r, 0, none⟩)), roff := s.roff + 4, b := 0, nb := 0, hist := .slice (some ⟨hb, 0, none⟩) 32768 32768, wr := s.wr % 32768, rd := s.wr % 32768, full := s.full || decide (s.wr = 32768), b0 := n % 256, b1 := n / 256, b2 := m % 256, b3 := m / 256, err := .nilIface }) :: Br r B (i + 4) :: blk hb 32768 (fun jj => u8 (hist jj)) :: R) := hS
  refine TW.at hS ?_
  refine TL.c m4 (TL.f 1049 fo_103_15 m0 (TL.s (r_st (F' := D { s with r := .iface 49 (.pointer (some ⟨r, 0, none⟩)), roff := s.roff + 4, b := 0, nb := 0, hist := .slice (some ⟨hb, 0, none⟩) 32768 32768, wr := s.wr % 32768, rd := s.wr % 32768, full := s.full || decide (s.wr = 32768), b0 := n % 256, b1 := n / 256, b2 := m % 256, b3 := m / 256, err := .nilIface, toRead := .slice (some ⟨hb, s.rd, none⟩) ((s.wr - s.rd)) ((32768 - s.rd)) }) Tryz.sizeOf22 (Dsat_toRead (.slice (some ⟨hb, s.rd, none⟩) ((s.wr - s.rd)) ((32768 - s.rd)))) a0 (.t m0) (.t m2) (by decide)) (TL.sub .t7 (TL.q (TL.m m2 (TL.call (r_call ce_109 (.cons (.t m0) .nil)) (fun w hS => t109 f hb { s with r := .iface 49 (.pointer (some ⟨r, 0, none⟩)), roff := s.roff + 4, b := 0, nb := 0, hist := .slice (some ⟨hb, 0, none⟩) 32768 32768, wr := s.wr % 32768, rd := s.wr % 32768, full := s.full || decide (s.wr = 32768), b0 := n % 256, b1 := n / 256, b2 := m % 256, b3 := m / 256, err := .nilIface, toRead := .slice (some ⟨hb, s.rd, none⟩) ((s.wr - s.rd)) ((32768 - s.rd)) } (by show (s.wr % 32768) ≤ (s.wr % 32768); omega) (by show (s.wr % 32768) < 32768; omega) hE hS) ?_))))))
  rintro _ w91 ⟨rfl, hS⟩
  refine TW.at hS ?_
  exact TL.sub .t2 (TL.e (CT.ret (EX.then_ret (EX.perm p2 (EX.perm p2 (EX.perm p2 (EX.end_ (.inl rfl) (res0 Tryz.results87) (fun _ hS => (data_zero H hu herr hsz hd4 hx0 ha (by omega) (by omega) hS).toA))))))))
 refine CT.sub .t1 (CT.skip (EX.q (TL.m m2 (TL.m m1 (TL.c m1 (TL.f 1052 fo_103_18 m0 (TL.s (r_st (F' := D { s with r := .iface 49 (.pointer (some ⟨r, 0, none⟩)), roff := s.roff + 4, b := 0, nb := 0, hist := .slice (some ⟨hb, 0, none⟩) 32768 32768, b0 := n % 256, b1 := n / 256, b2 := m % 256, b3 := m / 256, err := .nilIface, cl := n }) Tryz.sizeOf3 (Dsat_cl n) a1 (.t m0) (.t m2) (by decide)) (TL.sub .t4 (TL.e (CT.region (TL.m m2 (TL.perm p2 (TL.perm p1 (TL.perm p2 (TL.call (r_call ce_110 (.cons (.t m0) .nil)) (fun w hS => CallsR.mono (t110 (s := { s with r := .iface 49 (.pointer (some ⟨r, 0, none⟩)), roff := s.roff + 4, b := 0, nb := 0, hist := .slice (some ⟨hb, 0, none⟩) 32768 32768, b0 := n % 256, b1 := n / 256, b2 := m % 256, b3 := m / 256, err := .nilIface, cl := n }) (i := i + 4) (mu0 := mu0) hE hBl ⟨rfl, rfl, H.win, H.rw_, H.wl, by show s.roff + 4 = i + 4; omega, by omega, H.ex, H.sd.mono (Nat.le_refl _)⟩ hu htr rfl (xs := xs) (rest := rest) hxn rfl rfl hx hd4 ha (by omega) hS) fun _ _ h => h.toA) ?_)))))))))))))))
 rintro v97 w97 hS
 refine TW.at hS ?_
 exact TL.sub .t2 (TL.nil (EX.end_ (.inr rfl) (res0 Tryz.results87) (fun _ hS => hS)))
theorem t68 {G : World} {R : List HProp} {w : World} {bb cb f r hb i : Nat} {B : List Bool} {hF : List Nat × Bool} {del un : List Nat} {ea : Addr} {s : DS} {hist : Nat → Nat} {mu0 : Nat} (hE : EOFIs G ea) (hBl : B.length < 1099511627776) (hO : OrdIs G) (H : Base bb cb r hb B s i hist (del ++ un)) (hu : un.length = s.wr - s.rd) (htr : TR hb hist s.toRead []) (herr : s.err = .nilIface) (hsz : s.ss = 1 → s.cl = 0) {k typ : Nat} {fin : Bool} {rest3 : List Bool} (hk : Held B k i s.b s.nb) (hn : s.nb ≤ 7) (hd0 : B.drop k = nbits 3 (Bool.toNat fin + 2 * typ) ++ rest3) (htyp : typ ≤ 3) (hb3 : Blk3 fin k (del ++ un) hF typ rest3) (hmu : 1000 * (B.length - k) ≤ mu0)
 (hS : Sat G w (blk f 1054 (D s) :: Br r B i :: blk hb 32768 (fun j => u8 (hist j)) :: AnyB bb 316 :: AnyB cb 19 :: R)) : CallsR Tryz.prog 68 #[.pointer (some ⟨f, 0, none⟩)] w (fun _ w' => Sat G w' (RSA true bb cb f r hb B hF (.iface 187 (.pointer (some ea))) del (· < mu0) :: AnyB bb 316 :: AnyB cb 19 :: R)) := by
 have hlen := congrArg List.length hd0
 rw [List.length_drop, List.length_append, nbits_length] at hlen
 have hpl := pack_length B
 have h1 := H.rw_; have h2 := H.wl; have h3 := H.ro; have h4 := H.il
 have hs : s = { s with r := .iface 49 (.pointer (some ⟨r, 0, none⟩)), roff := i, bits := .pointer (some ⟨bb, 0, none⟩), cbits := .pointer (some ⟨cb, 0, none⟩), hist := .slice (some ⟨hb, 0, none⟩) 32768 32768, err := .nilIface } := by have h5 := H.r_; have h6 := H.hi; have h7 := H.ex.1; have h8 := H.ex.2.1; cases s; simp_all
 replace hS := hS.D hs
 refine calls_in (n := 103) [(0, (.pointer (some ⟨f, 0, none⟩)))] Tryz.func68 rfl rfl hS args1 ?_
 refine CT.seq (CT.block (CT.loop (X := Nat × Nat × Nat) (fun gx => [(0, (.pointer (some ⟨f, 0, none⟩)))]) (fun gx => (blk f 1054 (D { s with r := .iface 49 (.pointer (some ⟨r, 0, none⟩)), roff := gx.1, b := gx.2.1, nb := gx.2.2, bits := .pointer (some ⟨bb, 0, none⟩), cbits := .pointer (some ⟨cb, 0, none⟩), hist := .slice (some ⟨hb, 0, none⟩) 32768 32768, err := .nilIface })) :: Br r B gx.1 :: blk hb 32768 (fun jj => u8 (hist jj)) :: AnyB bb 316 :: AnyB cb 19 :: R) (fun gx => Held B k gx.1 gx.2.1 gx.2.2 ∧ gx.2.2 ≤ 10) (fun gx => 3 - gx.2.2) ((i, s.b, s.nb)) (⟨hk, by show s.nb ≤ 10; omega⟩) (.refl _) (.cons m0 .nil) ?_))
 rintro ⟨i2, b2, n2⟩ ⟨hI1, hI2⟩
 replace hI1 : Held B k i2 b2 n2 := hI1
 replace hI2 : n2 ≤ 10 := hI2
 have hh1 := hI1.1
 have hb2 : b2 < 4294967296 := Nat.lt_of_lt_of_le hI1.lt (Nat.pow_le_pow_right (by decide) (show n2 ≤ 32 by omega))
 refine CT.seq (CT.q (TL.m m0 (TL.c m0 (TL.f 4 fo_103_4 m0 (TL.val (r_ld (v := (u64 n2)) Tryz.isAgg90 m0 (.t m0) (by decide) (Dget_nb _)) (TL.val (n_lss n2 3 (.t m0) .c rfl rfl) (TL.sub (.hd .t4) (TL.e (CT.ifd m0 (fun c7 => ?_) (fun c7 => ?_))))))))))
 ·
  refine CT.sub .t1 (CT.skip (EX.seq (CT.block (CT.q (TL.m m0 (TL.m m1 (TL.perm p1 (TL.perm p1 (TL.call (r_call ce_86 (.cons (.t m0) .nil)) (fun w hS => t86 f r i2 B { s with r := .iface 49 (.pointer (some ⟨r, 0, none⟩)), roff := i2, b := b2, nb := n2, bits := .pointer (some ⟨bb, 0, none⟩), cbits := .pointer (some ⟨cb, 0, none⟩), hist := .slice (some ⟨hb, 0, none⟩) 32768 32768, err := .nilIface } (by omega) (by omega) (by show i2 < 9223372036854775807; omega) (by show b2 < 4294967296; omega) (by show n2 ≤ 24; omega) hS) ?_)))))))))
  rintro z10 w10 ⟨hz10, hS⟩
  replace hz10 : z10 = .nilIface := hz10
  subst hz10
  replace hS : Sat G w10 (blk f 1054 (D { s with r := .iface 49 (.pointer (some ⟨r, 0, none⟩)), roff := i2 + 1, b := b2 ||| byteAt B i2 * 2 ^ n2, nb := n2 + 8, bits := .pointer (some ⟨bb, 0, none⟩), cbits := .pointer (some ⟨cb, 0, none⟩), hist := .slice (some ⟨hb, 0, none⟩) 32768 32768, err := .nilIface }) :: Br r B (i2 + 1) :: blk hb 32768 (fun jj => u8 (hist jj)) :: AnyB bb 316 :: AnyB cb 19 :: R) := hS
  refine TW.at hS ?_
  refine TL.c m2 (TL.f 1048 fo_103_14 m0 (TL.s (r_st (F' := D { s with r := .iface 49 (.pointer (some ⟨r, 0, none⟩)), roff := i2 + 1, b := b2 ||| byteAt B i2 * 2 ^ n2, nb := n2 + 8, bits := .pointer (some ⟨bb, 0, none⟩), cbits := .pointer (some ⟨cb, 0, none⟩), hist := .slice (some ⟨hb, 0, none⟩) 32768 32768, err := .nilIface }) Tryz.sizeOf82 (Dsat_err .nilIface) a0 (.t m0) (.t m2) (by decide)) (TL.sub .t5 (TL.q (TL.m m0 (TL.c m0 (TL.f 1048 fo_103_14 m0 (TL.val (r_ld (v := .nilIface) Tryz.isAgg82 m0 (.t m0) (by decide) (Dget_err _)) (TL.val (r_nen Tryz.underlying82 (.t m0)) (TL.sub (.hd .t4) (TL.e (CT.iff_ m0 ?_))))))))))))
  exact CT.sub .t1 (CT.skip (EX.bnormal (EX.again ((i2 + 1, b2 ||| byteAt B i2 * 2 ^ n2, n2 + 8)) (⟨hI1.more (by have := hI1.1; omega), by show n2 + 8 ≤ 10; omega⟩) (by show 3 - (n2 + 8) < 3 - n2; omega) (.refl _) (.cons m0 .nil))))
 have hfl := flag_lt fin
 have hlow := hI1.low (m := 3) (by omega) (by omega) hd0
 have hf : decide ((b2 &&& 1) = 1) = fin := by rw [Nat.and_one_is_mod]; cases fin <;> simp only [Bool.toNat, cond_true, cond_false, Bool.toNat_true, Bool.toNat_false] at hlow <;> simp <;> omega
 have ht : b2 / 2 ^ 1 &&& 3 = typ := by rw [show (3 : Nat) = 2 ^ 2 - 1 from rfl, Nat.and_two_pow_sub_one_eq_mod]; omega
 have hil2 : i2 ≤ (pack B).length := by omega
 have hk3 := hI1.take (m := 3) (by omega)
 have hq1 : b2 / 2 ^ 1 / 2 ^ 2 = b2 / 2 ^ 3 := by rw [Nat.div_div_eq_div_mul]
 refine CT.sub .t1 (CT.exit (EX.then_exit (EX.then_exit (EX.out (EX.q (TL.m m0 (TL.m m1 (TL.c m0 (TL.f 3 fo_103_3 m0 (TL.val (r_ld (v := (u32 b2)) Tryz.isAgg89 m0 (.t m0) (by decide) (Dget_b _)) (TL.val (n_and b2 1 4294967296 (.t m0) .c rfl rfl (by omega) (by omega)) (TL.val (n_eql ((b2 &&& 1)) 1 (.t m0) .c rfl rfl) (TL.c m6 (TL.f 1047 fo_103_13 m0 (TL.s (r_st (F' := D { s with r := .iface 49 (.pointer (some ⟨r, 0, none⟩)), roff := i2, b := b2, nb := n2, bits := .pointer (some ⟨bb, 0, none⟩), cbits := .pointer (some ⟨cb, 0, none⟩), hist := .slice (some ⟨hb, 0, none⟩) 32768 32768, final := decide ((b2 &&& 1) = 1), err := .nilIface }) Tryz.sizeOf4 (Dsat_final (decide ((b2 &&& 1) = 1))) a0 (.t m0) (.t m2) (by decide)) (TL.sub .t9 (TL.fold (A' := (blk f 1054 (D { s with r := .iface 49 (.pointer (some ⟨r, 0, none⟩)), roff := i2, b := b2, nb := n2, bits := .pointer (some ⟨bb, 0, none⟩), cbits := .pointer (some ⟨cb, 0, none⟩), hist := .slice (some ⟨hb, 0, none⟩) 32768 32768, final := fin, err := .nilIface }))) a0 (D_eq (by rw [hf])) ?_)))))))))))))))))
 refine TL.q (TL.m m0 (TL.c m0 (TL.f 3 fo_103_3 m0 (TL.val (r_ld (v := (u32 b2)) Tryz.isAgg89 m0 (.t m0) (by decide) (Dget_b _)) (TL.val (n_shr b2 1 (.t m0) .c rfl rfl (by decide)) (TL.c m4 (TL.f 3 fo_103_3 m0 (TL.s (r_st (F' := D { s with r := .iface 49 (.pointer (some ⟨r, 0, none⟩)), roff := i2, b := b2 / 2 ^ 1, nb := n2, bits := .pointer (some ⟨bb, 0, none⟩), cbits := .pointer (some ⟨cb, 0, none⟩), hist := .slice (some ⟨hb, 0, none⟩) 32768 32768, final := fin, err := .nilIface }) Tryz.sizeOf89 (Dsat_b ((b2 / 2 ^ 1))) a0 (.t m0) (.t m2) (by decide)) (TL.sub .t7 (TL.q (TL.m m0 (TL.c m0 (TL.f 3 fo_103_3 m0 (TL.val (r_ld (v := (u32 (b2 / 2 ^ 1))) Tryz.isAgg89 m0 (.t m0) (by decide) (Dget_b _)) (TL.val (n_and ((b2 / 2 ^ 1)) 3 4294967296 (.t m0) .c rfl rfl (by omega) (by omega)) (TL.a m0 (TL.sub (.hd .t5) (TL.sub (.eq m0 (congrArg (fun z : Nat => Value.int .u32 (z : Int)) ht) (.cons m1 .nil)) (TL.q (TL.m m1 (TL.c m0 (TL.f 3 fo_103_3 m0 (TL.val (r_ld (v := (u32 (b2 / 2 ^ 1))) Tryz.isAgg89 m0 (.t m0) (by decide) (Dget_b _)) (TL.val (n_shr ((b2 / 2 ^ 1)) 2 (.t m0) .c rfl rfl (by decide)) (TL.c m4 (TL.f 3 fo_103_3 m0 (TL.s (r_st (F' := D { s with r := .iface 49 (.pointer (some ⟨r, 0, none⟩)), roff := i2, b := (b2 / 2 ^ 1) / 2 ^ 2, nb := n2, bits := .pointer (some ⟨bb, 0, none⟩), cbits := .pointer (some ⟨cb, 0, none⟩), hist := .slice (some ⟨hb, 0, none⟩) 32768 32768, final := fin, err := .nilIface }) Tryz.sizeOf89 (Dsat_b (((b2 / 2 ^ 1) / 2 ^ 2))) a0 (.t m0) (.t m2) (by decide)) (TL.sub .t7 (TL.fold (A' := (blk f 1054 (D { s with r := .iface 49 (.pointer (some ⟨r, 0, none⟩)), roff := i2, b := b2 / 2 ^ 3, nb := n2, bits := .pointer (some ⟨bb, 0, none⟩), cbits := .pointer (some ⟨cb, 0, none⟩), hist := .slice (some ⟨hb, 0, none⟩) 32768 32768, final := fin, err := .nilIface }))) a0 (D_eq (by rw [hq1])) ?_)))))))))))))))))))))))))))))
 refine TL.q (TL.m m1 (TL.c m0 (TL.f 4 fo_103_4 m0 (TL.val (r_ld (v := (u64 n2)) Tryz.isAgg90 m0 (.t m0) (by decide) (Dget_nb _)) (TL.val (n_sub n2 3 18446744073709551616 (.t m0) .c rfl rfl (by omega) (by omega)) (TL.c m4 (TL.f 4 fo_103_4 m0 (TL.s (r_st (F' := D { s with r := .iface 49 (.pointer (some ⟨r, 0, none⟩)), roff := i2, b := b2 / 2 ^ 3, nb := n2 - 3, bits := .pointer (some ⟨bb, 0, none⟩), cbits := .pointer (some ⟨cb, 0, none⟩), hist := .slice (some ⟨hb, 0, none⟩) 32768 32768, final := fin, err := .nilIface }) Tryz.sizeOf90 (Dsat_nb ((n2 - 3))) a0 (.t m0) (.t m2) (by decide)) (TL.sub .t7 (TL.e (CT.seq ?_)))))))))))
 rcases hb3 with @⟨ps, rest, xs, hps, hal, hxl, hx, -, ha⟩ | @⟨ps, rest, n, m, hps, hal, hn1, hm1, hnm, he⟩ | ⟨ht⟩ | @⟨own, nl, nd, hb0, bits, o, hoh, hhr, he, hgo⟩ | ⟨he⟩
 ·
  refine CT.sub (ρ' := [(2, (.int .u32 0)), (0, (.pointer (some ⟨f, 0, none⟩)))]) (.eq m0 rfl (.cons m1 .nil)) (CT.region (TL.m m0 (TL.sub (.hd .t1) (TL.e (CT.block (CT.q (TL.val (show Run _ _ _ _ _ _ (.bool true) from n_eql 0 0 (.t m0) .c rfl rfl) (TL.a m0 (TL.sub (.hd .t1) (TL.e (CT.ift m0 ?_)))))))))))
  refine CT.sub .t1 (CT.region (TL.m m1 ?_))
  have hd1 := drop_app hd0
  rw [nbits_length] at hd1
  have hd2 := drop_app hd1
  have hnb : n2 - 3 = ps.length := by omega
  have h8i : 8 * i2 = k + 3 + ps.length := by omega
  refine TL.perm p2 (TL.perm p2 (TL.perm p2 (TL.perm p2 (TL.perm p2 (TL.perm p2 (TL.call (r_call ce_87 (.cons (.t m0) .nil)) (fun w hS => t87 (s := { s with r := .iface 49 (.pointer (some ⟨r, 0, none⟩)), roff := i2, b := b2 / 2 ^ 3, nb := n2 - 3, bits := .pointer (some ⟨bb, 0, none⟩), cbits := .pointer (some ⟨cb, 0, none⟩), hist := .slice (some ⟨hb, 0, none⟩) 32768 32768, final := fin, err := .nilIface }) (i := i2) (mu0 := mu0) hE hBl ⟨rfl, rfl, H.win, H.rw_, H.wl, rfl, hil2, ⟨rfl, rfl, H.ex.2.2⟩, H.sd.mono (Nat.le_refl _)⟩ hu htr rfl hsz (n := xs.length) (m := 65535 - xs.length) (tl := xs.flatMap (nbits 8) ++ rest) (by omega) (by omega) (by rw [h8i]; exact hd2) (.inr ⟨by omega, xs, rest, rfl, rfl, hx, by rw [show 8 * (i2 + 4) + 8 * xs.length = k + 3 + ps.length + 32 + 8 * xs.length by omega]; exact ha⟩) (by omega) hS) ?_))))))
  rintro v65 w65 hS
  refine TW.at hS ?_
  exact TL.sub .t2 (TL.nil (EX.bnormal (EX.perm p2 (EX.perm p2 (EX.perm p2 (EX.end_ (.inr rfl) (res0 Tryz.results68) (fun _ hS => hS)))))))
 ·
  refine CT.sub (ρ' := [(2, (.int .u32 0)), (0, (.pointer (some ⟨f, 0, none⟩)))]) (.eq m0 rfl (.cons m1 .nil)) (CT.region (TL.m m0 (TL.sub (.hd .t1) (TL.e (CT.block (CT.q (TL.val (show Run _ _ _ _ _ _ (.bool true) from n_eql 0 0 (.t m0) .c rfl rfl) (TL.a m0 (TL.sub (.hd .t1) (TL.e (CT.ift m0 ?_)))))))))))
  refine CT.sub .t1 (CT.region (TL.m m1 ?_))
  have hd1 := drop_app hd0
  rw [nbits_length] at hd1
  have hd2 := drop_app hd1
  have hnb : n2 - 3 = ps.length := by omega
  have h8i : 8 * i2 = k + 3 + ps.length := by omega
  refine TL.perm p2 (TL.perm p2 (TL.perm p2 (TL.perm p2 (TL.perm p2 (TL.perm p2 (TL.call (r_call ce_87 (.cons (.t m0) .nil)) (fun w hS => t87 (s := { s with r := .iface 49 (.pointer (some ⟨r, 0, none⟩)), roff := i2, b := b2 / 2 ^ 3, nb := n2 - 3, bits := .pointer (some ⟨bb, 0, none⟩), cbits := .pointer (some ⟨cb, 0, none⟩), hist := .slice (some ⟨hb, 0, none⟩) 32768 32768, final := fin, err := .nilIface }) (i := i2) (mu0 := mu0) hE hBl ⟨rfl, rfl, H.win, H.rw_, H.wl, rfl, hil2, ⟨rfl, rfl, H.ex.2.2⟩, H.sd.mono (Nat.le_refl _)⟩ hu htr rfl hsz (n := n) (m := m) (tl := rest) hn1 hm1 (by rw [h8i]; exact hd2) (.inl ⟨hnm, he⟩) (by omega) hS) ?_))))))
  rintro v65 w65 hS
  refine TW.at hS ?_
  exact TL.sub .t2 (TL.nil (EX.bnormal (EX.perm p2 (EX.perm p2 (EX.perm p2 (EX.end_ (.inr rfl) (res0 Tryz.results68) (fun _ hS => hS)))))))
 ·
  refine CT.sub (ρ' := [(2, (.int .u32 1)), (0, (.pointer (some ⟨f, 0, none⟩)))]) (.eq m0 rfl (.cons m1 .nil)) (CT.region (TL.m m0 (TL.sub (.hd .t1) (TL.e (CT.block (CT.q (TL.val (show Run _ _ _ _ _ _ (.bool false) from n_eql 1 0 (.t m0) .c rfl rfl) (TL.a m0 (TL.sub (.hd .t1) (TL.e (CT.iff_ m0 ?_)))))))))))
  refine CT.sub .t1 (CT.q (TL.val (show Run _ _ _ _ _ _ (.bool true) from n_eql 1 1 (.t m0) .c rfl rfl) (TL.a m0 (TL.sub (.hd .t1) (TL.e (CT.ift m0 ?_))))))
  refine CT.sub .t1 (CT.q (TL.m m1 (TL.call (r_call ce_88 .nil) (fun w hS => t88 hS) ?_)))
  rintro _ w69 ⟨tb, T, t, rfl, htd, hmn, hS⟩
  refine TW.at hS ?_
  refine TL.c m1 (TL.f 1050 fo_103_16 m0 (TL.s (r_st (F' := D { s with r := .iface 49 (.pointer (some ⟨r, 0, none⟩)), roff := i2, b := b2 / 2 ^ 3, nb := n2 - 3, bits := .pointer (some ⟨bb, 0, none⟩), cbits := .pointer (some ⟨cb, 0, none⟩), hist := .slice (some ⟨hb, 0, none⟩) 32768 32768, final := fin, err := .nilIface, hl := .pointer (some ⟨tb, 0, none⟩) }) Tryz.sizeOf101 (Dsat_hl (.pointer (some ⟨tb, 0, none⟩))) a2 (.t m0) (.t m2) (by decide)) (TL.sub .t4 (TL.q (TL.m m1 (TL.c m0 (TL.f 1051 fo_103_17 m0 (TL.s (r_st (F' := D { s with r := .iface 49 (.pointer (some ⟨r, 0, none⟩)), roff := i2, b := b2 / 2 ^ 3, nb := n2 - 3, bits := .pointer (some ⟨bb, 0, none⟩), cbits := .pointer (some ⟨cb, 0, none⟩), hist := .slice (some ⟨hb, 0, none⟩) 32768 32768, final := fin, err := .nilIface, hl := .pointer (some ⟨tb, 0, none⟩), hd := .pointer none }) Tryz.sizeOf101 (Dsat_hd (.pointer none)) a2 (.t m0) .c (by decide)) (TL.sub .t3 (TL.e (CT.region (TL.m m1 ?_))))))))))))
  have hd1 := drop_app hd0
  rw [nbits_length] at hd1
  have h7 : fixLit.getD 256 0 = 7 := fix_256
  have hs01 : s.ss = 0 ∨ s.ss = 1 := H.sd.imp id (fun h => h.1)
  refine TL.perm p1 (TL.perm p1 (TL.perm p4 (TL.perm p4 (TL.perm p4 (TL.call (r_call ce_89 (.cons (.t m0) .nil)) (fun w hS => t89_F (s := { s with r := .iface 49 (.pointer (some ⟨r, 0, none⟩)), roff := i2, b := b2 / 2 ^ 3, nb := n2 - 3, bits := .pointer (some ⟨bb, 0, none⟩), cbits := .pointer (some ⟨cb, 0, none⟩), hist := .slice (some ⟨hb, 0, none⟩) 32768 32768, final := fin, err := .nilIface, hl := .pointer (some ⟨tb, 0, none⟩), hd := .pointer none }) (i := i2) (k := k + 3) (mu0 := mu0) (un := un) hE hBl ⟨rfl, rfl, H.win, H.rw_, H.wl, rfl, hil2, ⟨rfl, rfl, H.ex.2.2⟩, H.sd.mono (Nat.le_refl _)⟩ htr rfl fix_l256 rfl rfl rfl rfl htd hmn (ent_of (x := ⟨i2, b2 / 2 ^ 3, n2 - 3, s.wr, k + 3, s.cl, s.cd, hist, del ++ un⟩) hsz H.sd ⟨H.win, H.rw_, H.wl, hk3, (by show n2 - 3 ≤ _; omega), ⟨un, rfl, hu⟩, hil2, (by show s.ss ≤ 1; omega)⟩ (by show HTail fixLit fixDist fin (k + 3) (B.drop (k + 3)) (del ++ un) hF; rw [hd1]; exact ht) (by show 1000 * (B.length - (k + 3)) + 2 ≤ mu0; omega)) hS) ?_)))))
  rintro v76 w76 hS
  refine TW.at hS ?_
  exact TL.sub .t2 (TL.nil (EX.bnormal (EX.perm p2 (EX.perm p2 (EX.perm p2 (EX.end_ (.inr rfl) (res0 Tryz.results68) (fun _ hS => hS)))))))
 ·
  refine CT.sub (ρ' := [(2, (.int .u32 2)), (0, (.pointer (some ⟨f, 0, none⟩)))]) (.eq m0 rfl (.cons m1 .nil)) (CT.region (TL.m m0 (TL.sub (.hd .t1) (TL.e (CT.block (CT.q (TL.val (show Run _ _ _ _ _ _ (.bool false) from n_eql 2 0 (.t m0) .c rfl rfl) (TL.a m0 (TL.sub (.hd .t1) (TL.e (CT.iff_ m0 ?_)))))))))))
  refine CT.sub .t1 (CT.q (TL.val (show Run _ _ _ _ _ _ (.bool false) from n_eql 2 1 (.t m0) .c rfl rfl) (TL.a m0 (TL.sub (.hd .t1) (TL.e (CT.iff_ m0 ?_))))))
  refine CT.sub .t1 (CT.q (TL.val (show Run _ _ _ _ _ _ (.bool true) from n_eql 2 2 (.t m0) .c rfl rfl) (TL.a m0 (TL.sub (.hd .t1) (TL.e (CT.ift m0 ?_))))))
  refine CT.sub .t1 (CT.seq (CT.q (TL.m m1 (TL.m m2 ?_))))
  have hd1 := drop_app hd0
  rw [nbits_length] at hd1
  have hd1l := congrArg List.length hd1
  simp only [List.length_drop, List.length_append] at hd1l
  have hs01 : s.ss = 0 ∨ s.ss = 1 := H.sd.imp id (fun h => h.1)
  refine TL.perm p4 (TL.perm p4 (TL.perm p3 (TL.perm p3 (TL.call (r_call ce_90 (.cons (.t m0) .nil)) (fun w hS => t90 (s := { s with r := .iface 49 (.pointer (some ⟨r, 0, none⟩)), roff := i2, b := b2 / 2 ^ 3, nb := n2 - 3, bits := .pointer (some ⟨bb, 0, none⟩), cbits := .pointer (some ⟨cb, 0, none⟩), hist := .slice (some ⟨hb, 0, none⟩) 32768 32768, final := fin, err := .nilIface }) (k := k + 3) hO hBl hoh hhr hd1 hk3 (by show n2 - 3 ≤ 7; omega) hil2 (by omega) rfl rfl rfl rfl H.ex.2.2 hS) ?_))))
  rintro v81 w81 ⟨i3, b3, n3, H3, hil3, hHO, ⟨ho, z, rfl, hS⟩ | ⟨lit, dist, rest, t, td, k', ho, rfl, hkB', hdr, hk4, hn7, h256, htb, hmn, htdb, hS⟩⟩
  ·
   replace he := he ho
   replace hS : Sat G w81 (blk f 1054 (D { s with r := .iface 49 (.pointer (some ⟨r, 0, none⟩)), roff := i3, b := b3, nb := n3, H := H3, bits := .pointer (some ⟨bb, 0, none⟩), cbits := .pointer (some ⟨cb, 0, none⟩), hist := .slice (some ⟨hb, 0, none⟩) 32768 32768, final := fin, err := .nilIface }) :: Br r B i3 :: AnyB bb 316 :: AnyB cb 19 :: blk hb 32768 (fun jj => u8 (hist jj)) :: R) := hS
   refine TW.at hS ?_
   refine TL.c m2 (TL.f 1048 fo_103_14 m0 (TL.s (r_st (F' := D { s with r := .iface 49 (.pointer (some ⟨r, 0, none⟩)), roff := i3, b := b3, nb := n3, H := H3, bits := .pointer (some ⟨bb, 0, none⟩), cbits := .pointer (some ⟨cb, 0, none⟩), hist := .slice (some ⟨hb, 0, none⟩) 32768 32768, final := fin, err := .iface 121 (.int .i64 z) }) Tryz.sizeOf82 (Dsat_err (.iface 121 (.int .i64 z))) a0 (.t m0) (.t m2) (by decide)) (TL.sub .t5 (TL.q (TL.m m1 (TL.c m0 (TL.f 1048 fo_103_14 m0 (TL.val (r_ld (v := (.iface 121 (.int .i64 z))) Tryz.isAgg82 m0 (.t m0) (by decide) (Dget_err _)) (TL.val (r_nei Tryz.underlying82 (.t m0)) (TL.sub (.hd .t4) (TL.e (CT.ift m0 ?_))))))))))))
   exact CT.sub .t1 (CT.exit (EX.then_exit (EX.out (EX.perm p3 (EX.perm p3 (EX.perm p4 (EX.perm p4 (EX.perm p4 (EX.end_ (.inr rfl) (res0 Tryz.results68) (fun _ hS => hb_err (ea := ea) (R := AnyB bb 316 :: AnyB cb 19 :: R) (s' := { s with r := .iface 49 (.pointer (some ⟨r, 0, none⟩)), roff := i3, b := b3, nb := n3, H := H3, bits := .pointer (some ⟨bb, 0, none⟩), cbits := .pointer (some ⟨cb, 0, none⟩), hist := .slice (some ⟨hb, 0, none⟩) 32768 32768, final := fin, err := .iface 121 (.int .i64 z) }) (TB := []) rfl rfl htr rfl rfl ⟨rfl, rfl, hHO⟩ H.win H.rw_ H.wl ⟨un, rfl, hu⟩ hil3 (H.sd.mono (Nat.le_refl _)) he hS))))))))))
  subst ho
  have hrl := hhr.len
  have hdrl := congrArg List.length hdr
  rw [List.length_drop] at hdrl
  replace hS : Sat G w81 (blk f 1054 (D { s with r := .iface 49 (.pointer (some ⟨r, 0, none⟩)), roff := i3, b := b3, nb := n3, H := H3, bits := .pointer (some ⟨bb, 0, none⟩), cbits := .pointer (some ⟨cb, 0, none⟩), hist := .slice (some ⟨hb, 0, none⟩) 32768 32768, final := fin, err := .nilIface }) :: Br r B i3 :: AnyB bb 316 :: AnyB cb 19 :: Lnks t :: Lnks td :: blk hb 32768 (fun jj => u8 (hist jj)) :: R) := hS
  refine TW.at hS ?_
  refine TL.c m2 (TL.f 1048 fo_103_14 m0 (TL.s (r_st (F' := D { s with r := .iface 49 (.pointer (some ⟨r, 0, none⟩)), roff := i3, b := b3, nb := n3, H := H3, bits := .pointer (some ⟨bb, 0, none⟩), cbits := .pointer (some ⟨cb, 0, none⟩), hist := .slice (some ⟨hb, 0, none⟩) 32768 32768, final := fin, err := .nilIface }) Tryz.sizeOf82 (Dsat_err .nilIface) a0 (.t m0) (.t m2) (by decide)) (TL.sub .t5 (TL.q (TL.m m1 (TL.c m0 (TL.f 1048 fo_103_14 m0 (TL.val (r_ld (v := .nilIface) Tryz.isAgg82 m0 (.t m0) (by decide) (Dget_err _)) (TL.val (r_nen Tryz.underlying82 (.t m0)) (TL.sub (.hd .t4) (TL.e (CT.iff_ m0 ?_))))))))))))
  refine CT.sub .t1 (CT.skip (EX.q (TL.m m1 (TL.m m2 (TL.c m0 (TL.f 5 fo_103_5 m0 (TL.c m3 (TL.f 1050 fo_103_16 m0 (TL.s (r_st (F' := D { s with r := .iface 49 (.pointer (some ⟨r, 0, none⟩)), roff := i3, b := b3, nb := n3, H := H3, bits := .pointer (some ⟨bb, 0, none⟩), cbits := .pointer (some ⟨cb, 0, none⟩), hist := .slice (some ⟨hb, 0, none⟩) 32768 32768, final := fin, err := .nilIface, hl := .pointer (some ⟨f, 5, none⟩) }) Tryz.sizeOf101 (Dsat_hl (.pointer (some ⟨f, 5, none⟩))) a0 (.t m0) (.t m2) (by decide)) (TL.sub .t6 (TL.q (TL.m m1 (TL.m m2 (TL.c m0 (TL.f 520 fo_103_6 m0 (TL.c m3 (TL.f 1051 fo_103_17 m0 (TL.s (r_st (F' := D { s with r := .iface 49 (.pointer (some ⟨r, 0, none⟩)), roff := i3, b := b3, nb := n3, H := H3, bits := .pointer (some ⟨bb, 0, none⟩), cbits := .pointer (some ⟨cb, 0, none⟩), hist := .slice (some ⟨hb, 0, none⟩) 32768 32768, final := fin, err := .nilIface, hl := .pointer (some ⟨f, 5, none⟩), hd := .pointer (some ⟨f, 520, none⟩) }) Tryz.sizeOf101 (Dsat_hd (.pointer (some ⟨f, 520, none⟩))) a0 (.t m0) (.t m2) (by decide)) (TL.sub .t6 (TL.e (CT.region (TL.m m1 (TL.perm p5 (TL.perm p5 (TL.perm p6 (TL.perm p4 (TL.perm p4 (TL.call (r_call ce_89 (.cons (.t m0) .nil)) (fun w hS => t89_D (s := { s with r := .iface 49 (.pointer (some ⟨r, 0, none⟩)), roff := i3, b := b3, nb := n3, H := H3, bits := .pointer (some ⟨bb, 0, none⟩), cbits := .pointer (some ⟨cb, 0, none⟩), hist := .slice (some ⟨hb, 0, none⟩) 32768 32768, final := fin, err := .nilIface, hl := .pointer (some ⟨f, 5, none⟩), hd := .pointer (some ⟨f, 520, none⟩) }) (i := i3) (k := k') (mu0 := mu0) (un := un) hE hBl ⟨rfl, rfl, H.win, H.rw_, H.wl, rfl, hil3, ⟨rfl, rfl, hHO⟩, H.sd.mono (Nat.le_refl _)⟩ htr rfl h256 rfl rfl htb hmn htdb (ent_of (x := ⟨i3, b3, n3, s.wr, k', s.cl, s.cd, hist, del ++ un⟩) hsz H.sd ⟨H.win, H.rw_, H.wl, hk4, (by show n3 ≤ _; omega), ⟨un, rfl, hu⟩, hil3, (by show s.ss ≤ 1; omega)⟩ (by show HTail lit dist fin k' (B.drop k') (del ++ un) hF; rw [hdr]; exact hgo _ _ _ _ rfl (by omega)) (by show 1000 * (B.length - k') + 2 ≤ mu0; omega)) hS) ?_))))))))))))))))))))))))))))
  rintro v102 w102 hS
  refine TW.at hS ?_
  exact TL.sub .t2 (TL.nil (EX.bnormal (EX.perm p2 (EX.perm p2 (EX.perm p2 (EX.end_ (.inr rfl) (res0 Tryz.results68) (fun _ hS => hS)))))))
 refine CT.sub (ρ' := [(2, (.int .u32 3)), (0, (.pointer (some ⟨f, 0, none⟩)))]) (.eq m0 rfl (.cons m1 .nil)) (CT.region (TL.m m0 (TL.sub (.hd .t1) (TL.e (CT.block (CT.q (TL.val (show Run _ _ _ _ _ _ (.bool false) from n_eql 3 0 (.t m0) .c rfl rfl) (TL.a m0 (TL.sub (.hd .t1) (TL.e (CT.iff_ m0 ?_)))))))))))
 refine CT.sub .t1 (CT.q (TL.val (show Run _ _ _ _ _ _ (.bool false) from n_eql 3 1 (.t m0) .c rfl rfl) (TL.a m0 (TL.sub (.hd .t1) (TL.e (CT.iff_ m0 ?_))))))
 refine CT.sub .t1 (CT.q (TL.val (show Run _ _ _ _ _ _ (.bool false) from n_eql 3 2 (.t m0) .c rfl rfl) (TL.a m0 (TL.sub (.hd .t1) (TL.e (CT.iff_ m0 ?_))))))
 exact CT.sub .t1 (CT.region (TL.m m1 (TL.m m2 (TL.c m0 (TL.f 2 fo_103_2 m0 (TL.val (r_ld (v := (i64 i2)) Tryz.isAgg2 m0 (.t m0) (by decide) (Dget_roff _)) (TL.val (r_mki Tryz.underlying121 (.t m0)) (TL.c m5 (TL.f 1048 fo_103_14 m0 (TL.s (r_st (F' := D { s with r := .iface 49 (.pointer (some ⟨r, 0, none⟩)), roff := i2, b := b2 / 2 ^ 3, nb := n2 - 3, bits := .pointer (some ⟨bb, 0, none⟩), cbits := .pointer (some ⟨cb, 0, none⟩), hist := .slice (some ⟨hb, 0, none⟩) 32768 32768, final := fin, err := .iface 121 (i64 i2) }) Tryz.sizeOf82 (Dsat_err (.iface 121 (i64 i2))) a0 (.t m0) (.t m2) (by decide)) (TL.sub .t8 (TL.nil (EX.bnormal (EX.perm p4 (EX.perm p4 (EX.perm p4 (EX.perm p4 (EX.perm p4 (EX.end_ (.inr rfl) (res0 Tryz.results68) (fun _ hS => hb_err (ea := ea) (R := AnyB bb 316 :: AnyB cb 19 :: R) (s' := { s with r := .iface 49 (.pointer (some ⟨r, 0, none⟩)), roff := i2, b := b2 / 2 ^ 3, nb := n2 - 3, bits := .pointer (some ⟨bb, 0, none⟩), cbits := .pointer (some ⟨cb, 0, none⟩), hist := .slice (some ⟨hb, 0, none⟩) 32768 32768, final := fin, err := .iface 121 (i64 i2) }) (TB := []) rfl rfl htr rfl rfl ⟨rfl, rfl, H.ex.2.2⟩ H.win H.rw_ H.wl ⟨un, rfl, hu⟩ hil2 (H.sd.mono (Nat.le_refl _)) he hS))))))))))))))))))))
end Go.Eng
namespace Go.Eng
open Go Go.Proofs Go.Infl
theorem TR.shape {hb : Nat} {hist : Nat → Nat} {v : Value} {c : List Nat} (h : TR hb hist v c) : ∃ p cp, v = .slice p c.length cp := by
 rcases h with ⟨rfl, rfl⟩ | ⟨a, cp, h, _⟩
 ·
  exact ⟨none, 0, rfl⟩
 exact ⟨_, cp, h⟩
theorem TR.at_ {hb : Nat} {hist : Nat → Nat} {v : Value} {c : List Nat} (h : TR hb hist v c) (hc : 0 < c.length) : ∃ a cp, v = .slice (some ⟨hb, a, none⟩) c.length cp ∧ c.length ≤ cp ∧ a + c.length ≤ 32768 ∧ ∀ j x, c[j]? = some x → hist (a + j) = x := by
 rcases h with ⟨rfl, rfl⟩ | h
 ·
  cases hc
 exact h
section
variable {P : Program} {G w : World} {ρ : Env} {n : Nat} {R : List HProp} {Q : Exit → Act → World → Prop} {bb cb f r hb i : Nat} {B : List Bool} {hF : List Nat × Bool} {del h c un : List Nat} {z : Bool} {eof : Value} {ok : Nat → Prop} {s : DS}
theorem CT.rsOpen {cd : Code} (k : ∀ s i hist h c un p cp, Base bb cb r hb B s i hist h → h = del ++ (c ++ un) → un.length = s.wr - s.rd → TR hb hist s.toRead c → s.toRead = .slice p c.length cp →
 CT P cd Q ρ n G (blk f 1054 (D s) :: Br r B i :: blk hb 32768 (fun j => u8 (hist j)) :: Qt z f B hF eof s i h c un ok :: R)) : CT P cd Q ρ n G (RSA z bb cb f r hb B hF eof del ok :: R) := fun w a hS ha => by
 obtain ⟨⟨s, i, hist, h, c, un⟩, hS⟩ := hS.ex
 obtain ⟨⟨h1, h2, h3, h4⟩, hS⟩ := (Sat.unsep hS).pure
 obtain ⟨p, cp, h5⟩ := h4.shape
 exact k s i hist h c un p cp h1 h2 h3 h4 h5 w a hS ha
theorem CT.qtSplit {cd : Code} (k1 : ∀ mu, s.err = .nilIface → ok mu → CT P cd Q ρ n G (Pl f B hF s i h mu :: R)) (k2 : ∀ t v, s.err = .iface t v → EV hF eof s.err → h = hF.1 → (un = [] ∨ z = true ∧ c = []) → CT P cd Q ρ n G R) (he : ∃ v, eof = .iface 187 v) : CT P cd Q ρ n G (Qt z f B hF eof s i h c un ok :: R) := fun w a hS ha => by
 obtain ⟨o, hS⟩ := hS.ex
 cases o with
 | some mu =>
  obtain ⟨⟨h5, h6⟩, hS⟩ := (Sat.unsep hS).pure
  exact k1 mu h5 h6 w a hS ha
 | none =>
  obtain ⟨⟨h5, h6, h7⟩, hS⟩ := hS.pure
  obtain ⟨v, he⟩ := he
  rcases h5 with ⟨e1, e2⟩ | ⟨e1, x, e2⟩
  ·
   exact k2 _ _ (e2.trans he) (.inl ⟨e1, e2⟩) h6 h7 w a hS ha
  exact k2 _ _ e2 (.inr ⟨e1, x, e2⟩) h6 h7 w a hS ha
theorem CT.plStep {cd : Code} {mu : Nat} (k1 : s.step = .func (.func 68) #[] #[] → CT P cd Q ρ n G (Pl f B hF s i h mu :: R)) (k2 : s.step = .func (.func 110) #[] #[] → CT P cd Q ρ n G (Pl f B hF s i h mu :: R)) (k3 : s.step = .func (.func 89) #[] #[] → CT P cd Q ρ n G (Pl f B hF s i h mu :: R)) : CT P cd Q ρ n G (Pl f B hF s i h mu :: R) := fun w a hS ha => by
 obtain ⟨m, hm, _⟩ := hS.obj (List.mem_cons_self ..)
 cases hm with
 | blk e => exact k1 e w a hS ha
 | copy e => exact k2 e w a hS ha
 | huff e => exact k3 e w a hS ha
theorem Pl.toRead {mu : Nat} {v : Value} : ∀ m, Pl f B hF s i h mu m → Pl f B hF { s with toRead := v } i h mu m := fun m hm => by
 cases hm with
 | blk a1 a2 a3 a4 a5 a6 a7 => exact .blk a1 a2 a3 a4 a5 a6 a7
 | copy a1 a2 a3 a4 a5 a6 a7 a8 => exact .copy a1 a2 a3 a4 a5 a6 a7 a8
 | huff a1 a2 a3 a4 a5 a6 => exact .huff a1 a2 a3 a4 a5 a6
end
section
variable {G : World} {R : List HProp} {w : World} {bb cb f r hb i mu : Nat} {B : List Bool} {hF : List Nat × Bool} {del un : List Nat} {ea : Addr} {s : DS} {hist : Nat → Nat} (hE : EOFIs G ea) (hBl : B.length < 1099511627776) (hO : OrdIs G) (H : Base bb cb r hb B s i hist (del ++ un)) (hu : un.length = s.wr - s.rd) (htr : TR hb hist s.toRead []) (herr : s.err = .nilIface)
 (hS : Sat G w (blk f 1054 (D s) :: Br r B i :: blk hb 32768 (fun j => u8 (hist j)) :: Pl f B hF s i (del ++ un) mu :: AnyB bb 316 :: AnyB cb 19 :: R))
include hE hBl hO H hu htr herr hS
theorem step68 (hst : s.step = .func (.func 68) #[] #[]) : CallsR Tryz.prog 68 #[.pointer (some ⟨f, 0, none⟩)] w (fun _ w' => Sat G w' (RSA true bb cb f r hb B hF (.iface 187 (.pointer (some ea))) del (· < mu) :: AnyB bb 316 :: AnyB cb 19 :: R)) := by
 obtain ⟨m, hm, _⟩ := hS.obj (A := Pl f B hF s i (del ++ un) mu) (.tail _ (.tail _ (.tail _ (.head _))))
 have hS' := (hS.perm p3).tail
 cases hm with
 | @blk k _ st tail _ a1 a2 a3 a4 a5 a6 a7 =>
  obtain ⟨fin, typ, rest, e1, e2, e3⟩ := a5.blk3 tail
  exact t68 hE hBl hO H hu htr herr a7 a3 a2 (by rw [a4]; exact e1) e2 e3 (Nat.le_of_eq a6.symm) hS'
 | copy b1 => rw [hst] at b1; cases b1
 | huff b1 => rw [hst] at b1; cases b1
theorem step110 (hst : s.step = .func (.func 110) #[] #[]) : CallsR Tryz.prog 110 #[.pointer (some ⟨f, 0, none⟩)] w (fun _ w' => Sat G w' (RSA true bb cb f r hb B hF (.iface 187 (.pointer (some ea))) del (· < mu) :: AnyB bb 316 :: AnyB cb 19 :: R)) := by
 have _ := hO
 obtain ⟨m, hm, _⟩ := hS.obj (A := Pl f B hF s i (del ++ un) mu) (.tail _ (.tail _ (.tail _ (.head _))))
 have hS' := (hS.perm p3).tail
 cases hm with
 | blk b1 => rw [hst] at b1; cases b1
 | huff b1 => rw [hst] at b1; cases b1
 | copy a1 a2 a3 a4 a5 a6 a7 a8 => exact (t110 hE hBl H hu htr herr a4 a2 a3 a5 a6 a7 (Nat.le_of_eq a8.symm) hS').mono fun _ _ h => h.toA
theorem step89 (hst : s.step = .func (.func 89) #[] #[]) : CallsR Tryz.prog 89 #[.pointer (some ⟨f, 0, none⟩)] w (fun _ w' => Sat G w' (RSA true bb cb f r hb B hF (.iface 187 (.pointer (some ea))) del (· < mu) :: AnyB bb 316 :: AnyB cb 19 :: R)) := by
 have _ := hO
 have hS1 := hS.perm p3
 obtain ⟨m, hm, hle, hR⟩ := hS1.sat
 cases hm with
 | blk b1 => rw [hst] at b1; cases b1
 | copy b1 => rw [hst] at b1; cases b1
 | @huff k _ ls ds _ b1 hss hk hnb ht htb =>
  obtain ⟨h256, htb⟩ := htb
  have hent : (s.ss = 0 ∧ HI0 B hF del s ls ds mu ⟨i, s.b, s.nb, s.wr, k, s.cl, s.cd, hist, del ++ un⟩) ∨ (s.ss = 1 ∧ HI1 B hF del s ls ds mu ⟨i, s.b, s.nb, s.wr, k, s.cl, s.cd, hist, del ++ un⟩) := by
   have hx : s.ss ≤ 1 → HI B del s (ls.getD 256 0) ⟨i, s.b, s.nb, s.wr, k, s.cl, s.cd, hist, del ++ un⟩ := fun h01 => ⟨H.win, H.rw_, H.wl, hk, hnb, ⟨un, rfl, hu⟩, H.il, h01⟩
   rcases hss with ⟨h0, h1⟩ | ⟨h0, h1, h2, h3, h4, h5⟩
   ·
    rw [if_pos h0] at ht
    exact .inl ⟨h0, hx (by omega), ht, Nat.le_of_eq h1.symm, fun e => by omega⟩
   rw [if_neg (by omega)] at ht
   exact .inr ⟨h0, hx (by omega), ht, h1, h2, h3, h4, Nat.le_of_eq h5.symm⟩
  rcases htb with htb | htb
  ·
   have h2 : Sat G w (TbsF s.hl s.hd ls ds :: blk f 1054 (D s) :: Br r B i :: blk hb 32768 (fun j => u8 (hist j)) :: AnyB bb 316 :: AnyB cb 19 :: R) := { hS1 with sat := ⟨m, htb, hle, hR⟩ }
   obtain ⟨⟨tb, T, t⟩, h3⟩ := h2.ex
   obtain ⟨⟨e1, e2, e3, e4, e5, e6⟩, h4⟩ := h3.unsep.pure
   exact t89_F hE hBl H htr herr h256 e1 e2 e3 e4 e5 e6 hent (h4.perm (List.perm_append_comm_assoc [blk tb 515 T, Lnks t] [blk f 1054 (D s), Br r B i, blk hb 32768 (fun j => u8 (hist j))] (AnyB bb 316 :: AnyB cb 19 :: R)))
  have h2 : Sat G w (TbsD f s.hl s.hd s.H ls ds :: blk f 1054 (D s) :: Br r B i :: blk hb 32768 (fun j => u8 (hist j)) :: AnyB bb 316 :: AnyB cb 19 :: R) := { hS1 with sat := ⟨m, htb, hle, hR⟩ }
  obtain ⟨⟨t, td⟩, h3⟩ := h2.ex
  obtain ⟨⟨e1, e2, e3, e4, e5⟩, h4⟩ := h3.unsep.pure
  exact t89_D hE hBl H htr herr h256 e1 e2 e3 e4 e5 hent (h4.perm (List.perm_append_comm_assoc [Lnks t, Lnks td] [blk f 1054 (D s), Br r B i, blk hb 32768 (fun j => u8 (hist j))] (AnyB bb 316 :: AnyB cb 19 :: R)))
end
end Go.Eng
