/- Parts of the proof of the card: Ga Gb Gc Gd Ge Bd Gf Bh Bi Bj Bk Bl Bm Gq Gg Gh Gi Em Hc Hd He Bn Hf Ia -/
import Derived.Test.YtkpadembffdepaaGreatDoorK1
import Derived.OrdersHeld
set_option maxRecDepth 100000
set_option maxHeartbeats 4000000
set_option linter.unusedVariables false
set_option linter.unusedSimpArgs false
namespace Go.Eng
open Go Go.Proofs Go.Infl
structure DS where
 r : Value
 rBuf : Value
 roff : Nat
 b : Nat
 nb : Nat
 H : Nat → Value
 bits : Value
 cbits : Value
 hist : Value
 wr : Nat
 rd : Nat
 full : Bool
 b0 : Nat
 b1 : Nat
 b2 : Nat
 b3 : Nat
 step : Value
 ss : Nat
 final : Bool
 err : Value
 toRead : Value
 hl : Value
 hd : Value
 cl : Nat
 cd : Nat
def dfun (hd : List Value) (H : Nat → Value) (tl : List Value) (i : Nat) : Value := if i < 5 then lst hd i else if i < 1035 then H (i - 5) else lst tl (i - 1035)
theorem dfun_tl {hd tl : List Value} {H : Nat → Value} {v : Value} {j : Nat} (hj : Nat.blt j tl.length = true) : upd (dfun hd H tl) (1035 + j) v = dfun hd H (tl.set j v) := by
 funext i
 have e := congrFun (lst_set (v := v) hj) (i - 1035)
 unfold upd at e ⊢
 unfold dfun
 by_cases h1 : i < 5
 ·
  rw [if_neg (by omega), if_pos h1, if_pos h1]
 by_cases h2 : i < 1035
 ·
  rw [if_neg (by omega), if_neg h1, if_pos h2, if_neg h1, if_pos h2]
 rw [if_neg h1, if_neg h2, if_neg h1, if_neg h2, ← e]
 by_cases h3 : i = 1035 + j
 ·
  rw [if_pos h3, if_pos (by omega)]
 rw [if_neg h3, if_neg (by omega)]
theorem dfun_hd {hd tl : List Value} {H : Nat → Value} {v : Value} {j : Nat} (hj : Nat.blt j hd.length = true) (hl : hd.length = 5) : upd (dfun hd H tl) j v = dfun (hd.set j v) H tl := by
 funext i
 have e := congrFun (lst_set (v := v) hj) i
 have hj' : j < 5 := by rw [← hl]; simpa [Nat.blt_eq] using hj
 unfold upd at e ⊢
 unfold dfun
 by_cases h1 : i < 5
 ·
  rw [if_pos h1, if_pos h1, ← e]
 rw [if_neg (by omega), if_neg h1, if_neg h1]
def D (s : DS) : Nat → Value := dfun [s.r, s.rBuf, i64 s.roff, u32 s.b, u64 s.nb] s.H
 [s.bits, s.cbits, s.hist, i64 s.wr, i64 s.rd, .bool s.full, u8 s.b0, u8 s.b1, u8 s.b2, u8 s.b3, s.step, i64 s.ss, .bool s.final, s.err, s.toRead, s.hl, s.hd, i64 s.cl, i64 s.cd]
theorem Dset_r (s : DS) (x : Value) : upd (D s) 0 x = D { s with r := x } := dfun_hd (j := 0) rfl rfl
theorem Dget_r (s : DS) : D s 0 = s.r := rfl
theorem Dset_rBuf (s : DS) (x : Value) : upd (D s) 1 x = D { s with rBuf := x } := dfun_hd (j := 1) rfl rfl
theorem Dset_roff (s : DS) (x : Nat) : upd (D s) 2 (i64 x) = D { s with roff := x } := dfun_hd (j := 2) rfl rfl
theorem Dget_roff (s : DS) : D s 2 = i64 s.roff := rfl
theorem Dset_b (s : DS) (x : Nat) : upd (D s) 3 (u32 x) = D { s with b := x } := dfun_hd (j := 3) rfl rfl
theorem Dget_b (s : DS) : D s 3 = u32 s.b := rfl
theorem Dset_nb (s : DS) (x : Nat) : upd (D s) 4 (u64 x) = D { s with nb := x } := dfun_hd (j := 4) rfl rfl
theorem Dget_nb (s : DS) : D s 4 = u64 s.nb := rfl
theorem Dset_bits (s : DS) (x : Value) : upd (D s) 1035 x = D { s with bits := x } := dfun_tl (j := 0) rfl
theorem Dget_bits (s : DS) : D s 1035 = s.bits := rfl
theorem Dset_cbits (s : DS) (x : Value) : upd (D s) 1036 x = D { s with cbits := x } := dfun_tl (j := 1) rfl
theorem Dget_cbits (s : DS) : D s 1036 = s.cbits := rfl
theorem Dset_hist (s : DS) (x : Value) : upd (D s) 1037 x = D { s with hist := x } := dfun_tl (j := 2) rfl
theorem Dget_hist (s : DS) : D s 1037 = s.hist := rfl
theorem Dset_wr (s : DS) (x : Nat) : upd (D s) 1038 (i64 x) = D { s with wr := x } := dfun_tl (j := 3) rfl
theorem Dget_wr (s : DS) : D s 1038 = i64 s.wr := rfl
theorem Dset_rd (s : DS) (x : Nat) : upd (D s) 1039 (i64 x) = D { s with rd := x } := dfun_tl (j := 4) rfl
theorem Dget_rd (s : DS) : D s 1039 = i64 s.rd := rfl
theorem Dset_full (s : DS) (x : Bool) : upd (D s) 1040 (.bool x) = D { s with full := x } := dfun_tl (j := 5) rfl
theorem Dget_full (s : DS) : D s 1040 = .bool s.full := rfl
theorem Dset_b0 (s : DS) (x : Nat) : upd (D s) 1041 (u8 x) = D { s with b0 := x } := dfun_tl (j := 6) rfl
theorem Dget_b0 (s : DS) : D s 1041 = u8 s.b0 := rfl
theorem Dset_b1 (s : DS) (x : Nat) : upd (D s) 1042 (u8 x) = D { s with b1 := x } := dfun_tl (j := 7) rfl
theorem Dget_b1 (s : DS) : D s 1042 = u8 s.b1 := rfl
theorem Dset_b2 (s : DS) (x : Nat) : upd (D s) 1043 (u8 x) = D { s with b2 := x } := dfun_tl (j := 8) rfl
theorem Dget_b2 (s : DS) : D s 1043 = u8 s.b2 := rfl
theorem Dset_b3 (s : DS) (x : Nat) : upd (D s) 1044 (u8 x) = D { s with b3 := x } := dfun_tl (j := 9) rfl
theorem Dget_b3 (s : DS) : D s 1044 = u8 s.b3 := rfl
theorem Dset_step (s : DS) (x : Value) : upd (D s) 1045 x = D { s with step := x } := dfun_tl (j := 10) rfl
theorem Dget_step (s : DS) : D s 1045 = s.step := rfl
theorem Dset_ss (s : DS) (x : Nat) : upd (D s) 1046 (i64 x) = D { s with ss := x } := dfun_tl (j := 11) rfl
theorem Dget_ss (s : DS) : D s 1046 = i64 s.ss := rfl
theorem Dset_final (s : DS) (x : Bool) : upd (D s) 1047 (.bool x) = D { s with final := x } := dfun_tl (j := 12) rfl
theorem Dget_final (s : DS) : D s 1047 = .bool s.final := rfl
theorem Dset_err (s : DS) (x : Value) : upd (D s) 1048 x = D { s with err := x } := dfun_tl (j := 13) rfl
theorem Dget_err (s : DS) : D s 1048 = s.err := rfl
theorem Dset_toRead (s : DS) (x : Value) : upd (D s) 1049 x = D { s with toRead := x } := dfun_tl (j := 14) rfl
theorem Dget_toRead (s : DS) : D s 1049 = s.toRead := rfl
theorem Dset_hl (s : DS) (x : Value) : upd (D s) 1050 x = D { s with hl := x } := dfun_tl (j := 15) rfl
theorem Dget_hl (s : DS) : D s 1050 = s.hl := rfl
theorem Dset_hd (s : DS) (x : Value) : upd (D s) 1051 x = D { s with hd := x } := dfun_tl (j := 16) rfl
theorem Dget_hd (s : DS) : D s 1051 = s.hd := rfl
theorem Dset_cl (s : DS) (x : Nat) : upd (D s) 1052 (i64 x) = D { s with cl := x } := dfun_tl (j := 17) rfl
theorem Dget_cl (s : DS) : D s 1052 = i64 s.cl := rfl
theorem Dset_cd (s : DS) (x : Nat) : upd (D s) 1053 (i64 x) = D { s with cd := x } := dfun_tl (j := 18) rfl
theorem Dget_cd (s : DS) : D s 1053 = i64 s.cd := rfl
theorem D_eq {f : Nat} {s s' : DS} (h : s = s') : ∀ m, blk f 1054 (D s) m → blk f 1054 (D s') m := by subst h; exact fun _ h => h
theorem Sat.D {G w : World} {R : List HProp} {f : Nat} {s s' : DS} (h : Sat G w (Eng.blk f 1054 (D s) :: R)) (e : s = s') : Sat G w (Eng.blk f 1054 (Eng.D s') :: R) := by subst e; exact h
def Br (r : Nat) (B : List Bool) (i : Nat) : HProp := hex fun x : Value × Int => sep [blk r 3 (lst [x.1, i64 i, .int .i64 x.2]), slc 1 x.1 (pack B).length ((pack B).map u8)]
section
variable {P : Program} {G w : World} {ρ : Env} {n : Nat} {R : List HProp} {Q : Exit → Act → World → Prop} {ops : Array Oper} {rest : List Oper} {r i : Nat} {v : Value} {B : List Bool} {e : Int}
theorem Sat.br (h : Sat G w (Br r B i :: R)) : ∃ v e, Sat G w (Eng.blk r 3 (lst [v, i64 i, .int .i64 e]) :: Eng.slc 1 v (pack B).length ((pack B).map u8) :: R) :=
 let ⟨⟨v, e⟩, hv⟩ := h.ex; ⟨v, e, hv.unsep⟩
theorem Sat.unbr (h : Sat G w (Eng.blk r 3 (lst [v, i64 i, .int .i64 e]) :: Eng.slc 1 v (pack B).length ((pack B).map u8) :: R)) : Sat G w (Br r B i :: R) :=
 (Sat.resep (Ls := [Eng.blk r 3 (lst [v, i64 i, .int .i64 e]), Eng.slc 1 v (pack B).length ((pack B).map u8)]) h).imp fun _ hm => ⟨(v, e), hm⟩
theorem CT.br {c : Code} (k : ∀ v e, CT P c Q ρ n G (blk r 3 (lst [v, i64 i, .int .i64 e]) :: slc 1 v (pack B).length ((pack B).map u8) :: R)) : CT P c Q ρ n G (Br r B i :: R) := fun w a hS ha => let ⟨v, e, hv⟩ := hS.br; k v e w a hv ha
end
end Go.Eng
namespace Go.Eng
open Go Go.Proofs Go.Infl
theorem Dsat_r {s s' : DS} (x : Value) (h : { s with r := x } = s' := by rfl) : upd (D s) 0 x = D s' := by rw [← h]; exact Dset_r s x
theorem Dsat_roff {s s' : DS} (x : Nat) (h : { s with roff := x } = s' := by rfl) : upd (D s) 2 (i64 x) = D s' := by rw [← h]; exact Dset_roff s x
theorem Dsat_b {s s' : DS} (x : Nat) (h : { s with b := x } = s' := by rfl) : upd (D s) 3 (u32 x) = D s' := by rw [← h]; exact Dset_b s x
theorem Dsat_nb {s s' : DS} (x : Nat) (h : { s with nb := x } = s' := by rfl) : upd (D s) 4 (u64 x) = D s' := by rw [← h]; exact Dset_nb s x
theorem Dsat_bits {s s' : DS} (x : Value) (h : { s with bits := x } = s' := by rfl) : upd (D s) 1035 x = D s' := by rw [← h]; exact Dset_bits s x
theorem Dsat_cbits {s s' : DS} (x : Value) (h : { s with cbits := x } = s' := by rfl) : upd (D s) 1036 x = D s' := by rw [← h]; exact Dset_cbits s x
theorem Dsat_hist {s s' : DS} (x : Value) (h : { s with hist := x } = s' := by rfl) : upd (D s) 1037 x = D s' := by rw [← h]; exact Dset_hist s x
theorem Dsat_wr {s s' : DS} (x : Nat) (h : { s with wr := x } = s' := by rfl) : upd (D s) 1038 (i64 x) = D s' := by rw [← h]; exact Dset_wr s x
theorem Dsat_rd {s s' : DS} (x : Nat) (h : { s with rd := x } = s' := by rfl) : upd (D s) 1039 (i64 x) = D s' := by rw [← h]; exact Dset_rd s x
theorem Dsat_full {s s' : DS} (x : Bool) (h : { s with full := x } = s' := by rfl) : upd (D s) 1040 (.bool x) = D s' := by rw [← h]; exact Dset_full s x
theorem Dsat_step {s s' : DS} (x : Value) (h : { s with step := x } = s' := by rfl) : upd (D s) 1045 x = D s' := by rw [← h]; exact Dset_step s x
theorem Dsat_ss {s s' : DS} (x : Nat) (h : { s with ss := x } = s' := by rfl) : upd (D s) 1046 (i64 x) = D s' := by rw [← h]; exact Dset_ss s x
theorem Dsat_final {s s' : DS} (x : Bool) (h : { s with final := x } = s' := by rfl) : upd (D s) 1047 (.bool x) = D s' := by rw [← h]; exact Dset_final s x
theorem Dsat_err {s s' : DS} (x : Value) (h : { s with err := x } = s' := by rfl) : upd (D s) 1048 x = D s' := by rw [← h]; exact Dset_err s x
theorem Dsat_toRead {s s' : DS} (x : Value) (h : { s with toRead := x } = s' := by rfl) : upd (D s) 1049 x = D s' := by rw [← h]; exact Dset_toRead s x
theorem Dsat_hl {s s' : DS} (x : Value) (h : { s with hl := x } = s' := by rfl) : upd (D s) 1050 x = D s' := by rw [← h]; exact Dset_hl s x
theorem Dsat_hd {s s' : DS} (x : Value) (h : { s with hd := x } = s' := by rfl) : upd (D s) 1051 x = D s' := by rw [← h]; exact Dset_hd s x
theorem Dsat_cl {s s' : DS} (x : Nat) (h : { s with cl := x } = s' := by rfl) : upd (D s) 1052 (i64 x) = D s' := by rw [← h]; exact Dset_cl s x
theorem Dsat_cd {s s' : DS} (x : Nat) (h : { s with cd := x } = s' := by rfl) : upd (D s) 1053 (i64 x) = D s' := by rw [← h]; exact Dset_cd s x
end Go.Eng
namespace Go.Eng
open Go Go.Proofs Go.Infl
theorem t114 (f hb : Nat) (s : DS) (h1 : s.wr ≤ 32768) {G : World} {R : List HProp} {w : World} (hS : Sat G w (blk f 1054 (D { s with hist := Hw hb }) :: R)) :
 CallsR Tryz.prog 114 #[(pt f 1037)] w (fun v w' => v = i64 (32768 - s.wr) ∧ Sat G w' (blk f 1054 (D { s with hist := Hw hb }) :: R)) := by
 refine calls_in (n := 13) [(0, (pt f 1037))] Tryz.func114 rfl rfl hS args1 ?_
 refine CT.q (TL.val (r_asg .c) (TL.e (CT.seq (CT.still fm (by kernel_rfl) ?_))))
 exact TS.m m1 (TS.c m0 (TS.f 1037 fo_98_0 m0 (TS.val (r_ld (v := (Hw hb)) Tryz.isAgg22 m0 T0 (by decide) (Dget_hist _)) (TS.val (r_len Tryz.underlying22 T0) (TS.m m6 (TS.c m0 (TS.f 1038 fo_98_1 m0 (TS.val (r_ld (v := (i64 s.wr)) Tryz.isAgg3 m0 T0 (by decide) (Dget_wr _)) (TS.val (n_sub 32768 s.wr 9223372036854775808 T4 T0) (TS.rm .h10 (TS.val (r_asg T0) (TS.nil (TL.b (.hd .u11) (CT.ret (EX.end_ (.inl rfl) (res1 Tryz.results114 m0) (fun _ hS => ⟨rfl, hS⟩))))))))))))))))
theorem t124 (f hb : Nat) (s : DS) (h1 : s.wr ≤ 32768) (h2 : s.rd ≤ s.wr) {G : World} {R : List HProp} {w : World} (hS : Sat G w (blk f 1054 (D { s with hist := Hw hb }) :: R)) :
 CallsR Tryz.prog 124 #[(pt f 1037)] w (fun v w' => v = i64 (s.wr - s.rd) ∧ Sat G w' (blk f 1054 (D { s with hist := Hw hb }) :: R)) := by
 refine calls_in (n := 12) [(0, (pt f 1037))] Tryz.func124 rfl rfl hS args1 ?_
 refine CT.q (TL.val (r_asg .c) (TL.e (CT.seq (CT.still fm (by kernel_rfl) ?_))))
 exact TS.m m1 (TS.c m0 (TS.f 1038 fo_98_1 m0 (TS.val (r_ld (v := (i64 s.wr)) Tryz.isAgg3 m0 T0 (by decide) (Dget_wr _)) (TS.m m5 (TS.c m0 (TS.f 1039 fo_98_2 m0 (TS.val (r_ld (v := (i64 s.rd)) Tryz.isAgg3 m0 T0 (by decide) (Dget_rd _)) (TS.val (n_sub s.wr s.rd 9223372036854775808 T4 T0) (TS.rm .h9 (TS.val (r_asg T0) (TS.nil (TL.b (.hd .u10) (CT.ret (EX.end_ (.inl rfl) (res1 Tryz.results124 m0) (fun _ hS => ⟨rfl, hS⟩)))))))))))))))
theorem t126 (f hb : Nat) (s : DS) (n : Nat) (h1 : s.wr + n ≤ 32768) {G : World} {R : List HProp} {w : World} (hS : Sat G w (blk f 1054 (D { s with hist := Hw hb }) :: R)) :
 CallsR Tryz.prog 126 #[(pt f 1037), (i64 n)] w (fun v w' => v = .tuple #[] ∧ Sat G w' (blk f 1054 (D { s with hist := Hw hb, wr := s.wr + n }) :: R)) := by
 refine calls_in (n := 12) [(0, (pt f 1037)), (1, (i64 n))] Tryz.func126 rfl rfl hS args2 ?_
 exact CT.region (TL.m m0 (TL.c m0 (TL.f 1038 fo_98_1 m0 (TL.val (r_ld (v := (i64 s.wr)) Tryz.isAgg3 m0 T0 (by decide) (Dget_wr _)) (TL.m m5 (TL.val (n_add s.wr n 9223372036854775808 T1 T0) (TL.c m5 (TL.f 1038 fo_98_1 m0 (TL.s (r_st (F' := D { s with hist := Hw hb, wr := s.wr + n }) Tryz.sizeOf3 (Dsat_wr ((s.wr + n))) a0 T0 T2 (by decide)) (TL.x .u10 (EX.end_ (.inr rfl) (res0 Tryz.results126) (fun _ hS => ⟨rfl, hS⟩))))))))))))
theorem t125 (f hb : Nat) (s : DS) (h1 : s.wr < 32768) {G : World} {R : List HProp} {w : World} (hS : Sat G w (blk f 1054 (D { s with hist := Hw hb }) :: R)) :
 CallsR Tryz.prog 125 #[(pt f 1037)] w (fun v w' => v = .slice (some ⟨hb, s.wr, none⟩) (32768 - s.wr) (32768 - s.wr) ∧ Sat G w' (blk f 1054 (D { s with hist := Hw hb }) :: R)) := by
 refine calls_in (n := 12) [(0, (pt f 1037))] Tryz.func125 rfl rfl hS args1 ?_
 refine CT.q (TL.val (r_asg .c) (TL.e (CT.seq (CT.still fm (by kernel_rfl) ?_))))
 exact TS.m m1 (TS.c m0 (TS.f 1037 fo_98_0 m0 (TS.val (r_ld (v := (Hw hb)) Tryz.isAgg22 m0 T0 (by decide) (Dget_hist _)) (TS.m m5 (TS.c m0 (TS.f 1038 fo_98_1 m0 (TS.val (r_ld (v := (i64 s.wr)) Tryz.isAgg3 m0 T0 (by decide) (Dget_wr _)) (TS.val (r_slice (off' := s.wr) (m := 32768 - s.wr) (c' := 32768 - s.wr) Tryz.underlying22 Tryz.sizeOf5 T4 (.so (j := s.wr) T0 rfl) .no (by (try simp) <;> omega) (by (try simp) <;> omega) (by simp; omega) (by simp) (by simp)) (TS.rm .h9 (TS.val (r_asg T0) (TS.nil (TL.b (.hd .u10) (CT.ret (EX.end_ (.inl rfl) (res1 Tryz.results125 m0) (fun _ hS => ⟨rfl, hS⟩)))))))))))))))
theorem t116 (f hb : Nat) (s : DS) {G : World} {R : List HProp} {w : World} (hS : Sat G w (blk f 1054 (D { s with hist := Hw hb }) :: R)) :
 CallsR Tryz.prog 116 #[(pt f 1037)] w (fun v w' => v = i64 (if s.full = true then 32768 else s.wr) ∧ Sat G w' (blk f 1054 (D { s with hist := Hw hb }) :: R)) := by
 refine calls_in (n := 16) [(0, (pt f 1037))] Tryz.func116 rfl rfl hS args1 ?_
 refine CT.q (TL.val (r_asg .c) (TL.e (CT.seq (CT.q (TL.m m1 (TL.c m0 (TL.f 1040 fo_98_3 m0 (TL.val (r_ld (v := (.bool s.full)) Tryz.isAgg4 m0 T0 (by decide) (Dget_full _)) (TL.b (.hd .u3) (CT.iff m0 (fun c6 => ?_) (fun c6 => ?_)))))))))))
 ·
  exact CT.y (TL.m m1 (TL.c m0 (TL.f 1037 fo_98_0 m0 (TL.val (r_ld (v := (Hw hb)) Tryz.isAgg22 m0 T0 (by decide) (Dget_hist _)) (TL.val (r_len Tryz.underlying22 T0) (TL.rm .h5 (TL.a m0 (TL.b (.hd .u5) (CT.ret (EX.then_ret (EX.end_ (.inl rfl) (res1 Tryz.results116 m0) (fun _ hS => ⟨by simp [c6], hS⟩))))))))))))
 exact CT.z (EX.q (TL.m m1 (TL.c m0 (TL.f 1038 fo_98_1 m0 (TL.val (r_ld (v := (i64 s.wr)) Tryz.isAgg3 m0 T0 (by decide) (Dget_wr _)) (TL.rm .h4 (TL.a m0 (TL.b (.hd .u4) (CT.ret (EX.end_ (.inl rfl) (res1 Tryz.results116 m0) (fun _ hS => ⟨by simp [c6], hS⟩)))))))))))
theorem t108 (f hb : Nat) (s : DS) (h1 : s.rd ≤ s.wr) (h2 : s.wr ≤ 32768) (h3 : s.rd < 32768) {G : World} {R : List HProp} {w : World} (hS : Sat G w (blk f 1054 (D { s with hist := Hw hb }) :: R)) :
 CallsR Tryz.prog 108 #[(pt f 1037)] w (fun v w' => v = .slice (some ⟨hb, s.rd, none⟩) (s.wr - s.rd) (32768 - s.rd) ∧ Sat G w' (blk f 1054 (D { s with hist := Hw hb, wr := s.wr % 32768, rd := s.wr % 32768, full := s.full || decide (s.wr = 32768) }) :: R)) := by
 refine calls_in (n := 44) [(0, (pt f 1037))] Tryz.func108 rfl rfl hS args1 ?_
 refine CT.q (TL.val (r_asg .c) (TL.e (CT.seq (CT.still fm (by kernel_rfl) ?_))))
 refine TS.m m1 (TS.c m0 (TS.f 1037 fo_98_0 m0 (TS.val (r_ld (v := (Hw hb)) Tryz.isAgg22 m0 T0 (by decide) (Dget_hist _)) (TS.m m5 (TS.c m0 (TS.f 1039 fo_98_2 m0 (TS.val (r_ld (v := (i64 s.rd)) Tryz.isAgg3 m0 T0 (by decide) (Dget_rd _)) (TS.m m9 (TS.c m0 (TS.f 1038 fo_98_1 m0 (TS.val (r_ld (v := (i64 s.wr)) Tryz.isAgg3 m0 T0 (by decide) (Dget_wr _)) (TS.val (r_slice (off' := s.rd) (m := s.wr - s.rd) (c' := 32768 - s.rd) Tryz.underlying22 Tryz.sizeOf5 T8 (.so (j := s.rd) T4 rfl) (.so (j := s.wr) T0 rfl) (by (try simp) <;> omega) (by (try simp) <;> omega) (by simp; omega) (by simp) (by simp)) (TS.val (r_asg T0) (TS.nil (TL.r (.hd .u13) (TL.m m2 (TL.m m3 (TL.c m0 (TL.f 1038 fo_98_1 m0 (TL.val (r_ld (v := (i64 s.wr)) Tryz.isAgg3 m0 T0 (by decide) (Dget_wr _)) (TL.c m4 (TL.f 1039 fo_98_2 m0 (TL.s (r_st (F' := D { s with hist := Hw hb, rd := s.wr }) Tryz.sizeOf3 (Dsat_rd s.wr) a0 T0 T2 (by decide)) (TL.b .u7 (CT.seq (CT.seq (CT.still fm (by kernel_rfl) ?_)))))))))))))))))))))))))))
 refine TS.m m2 (TS.c m0 (TS.f 1038 fo_98_1 m0 (TS.val (r_ld (v := (i64 s.wr)) Tryz.isAgg3 m0 T0 (by decide) (Dget_wr _)) (TS.m m6 (TS.c m0 (TS.f 1037 fo_98_0 m0 (TS.val (r_ld (v := (Hw hb)) Tryz.isAgg22 m0 T0 (by decide) (Dget_hist _)) (TS.val (r_len Tryz.underlying22 T0) (TS.val (n_eql s.wr 32768 T5 T0) (TS.nil (TL.b (.hd .u9) (CT.ifd m0 (fun c33 => ?_) (fun c33 => ?_)))))))))))))
 ·
  exact CT.y (TL.m m2 (TL.m m3 (TL.c m1 (TL.f 1038 fo_98_1 m0 (TL.s (r_st (F' := D { s with hist := Hw hb, wr := 0, rd := s.wr }) Tryz.sizeOf3 (Dsat_wr 0) a0 T0 .c (by decide)) (TL.c m2 (TL.f 1039 fo_98_2 m0 (TL.s (r_st (F' := D { s with hist := Hw hb, wr := 0, rd := 0 }) Tryz.sizeOf3 (Dsat_rd 0) a0 T0 .c (by decide)) (TL.b .u6 (CT.region (TL.m m2 (TL.c m0 (TL.f 1040 fo_98_3 m0 (TL.s (r_st (F' := D { s with hist := Hw hb, wr := 0, rd := 0, full := true }) Tryz.sizeOf4 (Dsat_full true) a0 T0 .c (by decide)) (TL.r .u3 (TL.m m0 (TL.rm .h2 (TL.a m0 (TL.b (.hd .u2) (CT.ret (EX.end_ (.inl rfl) (res1 Tryz.results108 m0) (fun _ hS => ⟨rfl, hS.D (by simp [c33])⟩))))))))))))))))))))))
 exact CT.z (EX.q (TL.m m0 (TL.rm .h2 (TL.a m0 (TL.b (.hd .u2) (CT.ret (EX.end_ (.inl rfl) (res1 Tryz.results108 m0) (fun _ hS => ⟨rfl, hS.D (by have hm : s.wr % 32768 = s.wr := Nat.mod_eq_of_lt (by omega); simp [c33, hm])⟩))))))))
end Go.Eng
namespace Go.Eng
open Go Go.Proofs Go.Infl
section
variable {P : Program} {G w : World} {ρ : Env} {n : Nat} {L R : List HProp} {v : Value} {d : Option Tmp} {ty : TypeId} {pos : String} {af : Array Edge} {g : Option (Nat × Bool)}
theorem r_mkm {x : Operand} {name : String} (h : OV ρ x v) : Run P G ρ n L ⟨d, .makeFunc (.method name) #[x] #[], ty, pos, af, g⟩ (.func (.method name) #[v] #[]) := fun w a _ ha => by
 simp [execOp, Instr.makeFunc, h.eval ha, Sem.run]
theorem r_nilm {x : Operand} {name : String} {t : TypeId} {u : Value} (h : OV ρ x (.func (.method name) #[.iface t u] #[])) (hn : ∀ w, (nilAhead (P.types.size + Made.depth) t u name).run P w = .ok (some false) w) :
 Run P G ρ n L ⟨d, .nilCheck x, ty, pos, af, g⟩ (.func (.method name) #[.iface t u] #[]) := fun w a _ ha => by
 have hp : program.run P w = .ok P w := rfl
 simp [execOp, h.eval ha, hp, hn]
end
theorem mt_49_Read (p : Nat) (w : World) : (method (Tryz.prog.types.size + Made.depth) 49 (pt p 0) "Read").run Tryz.prog w = .ok (146, pt p 0) w := by kernel_rfl
theorem mt_49_ReadByte (p : Nat) (w : World) : (method (Tryz.prog.types.size + Made.depth) 49 (pt p 0) "ReadByte").run Tryz.prog w = .ok (147, pt p 0) w := by kernel_rfl
theorem mt_107_Read (p : Nat) (w : World) : (method (Tryz.prog.types.size + Made.depth) 107 (pt p 0) "Read").run Tryz.prog w = .ok (154, pt p 0) w := by kernel_rfl
theorem na_49_Read (p : Nat) (w : World) : (nilAhead (Tryz.prog.types.size + Made.depth) 49 (pt p 0) "Read").run Tryz.prog w = .ok (some false) w := by kernel_rfl
end Go.Eng
namespace Go.Eng
open Go Go.Proofs Go.Infl
theorem sub_get {α β : Type} {l : List α} {f : α → β} {i m j : Nat} {x : β} (h : (((l.drop i).take m).map f)[j]? = some x) : (l.map f)[i + j]? = some x := by
 rw [List.getElem?_map, List.getElem?_take] at h
 split at h
 ·
  rw [List.getElem?_drop] at h
  rw [List.getElem?_map, h]
 cases h
theorem t147 (r i : Nat) (B : List Bool) (hi : i < (pack B).length) (hl : (pack B).length < 9223372036854775807) {G : World} {R : List HProp} {w : World} (hS : Sat G w (Br r B i :: R)) :
 CallsR Tryz.prog 147 #[(pt r 0)] w (fun v w' => v = .tuple #[u8 (byteAt B i), .nilIface] ∧ Sat G w' (Br r B (i + 1) :: R)) := by
 refine calls_in (n := 37) [(0, (pt r 0))] Tryz.func147 rfl rfl hS args1 ?_
 refine CT.q (TL.val (r_asg .c) (TL.val (r_asg .c) (TL.e (CT.seq (CT.br ?_)))))
 intro v pv
 refine CT.region (TL.m m2 (TL.c m0 (TL.f 2 fo_130_2 m0 (TL.s (r_stl (l' := [v, (i64 i), (.int .i64 ((-1)))]) Tryz.sizeOf3 a0 T0 .c (by decide)) (TL.b .u3 (CT.seq (CT.seq (CT.still fm (by kernel_rfl) ?_))))))))
 refine TS.m m2 (TS.c m0 (TS.f 1 fo_130_1 m0 (TS.val (r_ld (v := (i64 i)) Tryz.isAgg2 m0 T0 (by decide) rfl) (TS.m m6 (TS.c m0 (TS.f 0 fo_130_0 m0 (TS.val (r_ld (v := v) Tryz.isAgg22 m0 T0 (by decide) rfl) (TS.val (r_lens Tryz.underlying22 T0 m1) (TS.val (n_geq i ((pack B).length) T5 T0) (TS.nil (TL.b (.hd .u9) (CT.ifd m0 (fun c17 => ?_) (fun c17 => ?_)))))))))))))
 ·
  exfalso; omega
 refine CT.z (EX.seq (CT.seq (CT.peek m1 (by omega) ?_)))
 intro d d_c d_v d_k d_l
 refine CT.still fm (by kernel_rfl) ?_
 refine TS.m m2 (TS.c m0 (TS.f 0 fo_130_0 m0 (TS.val (r_ld (v := v) Tryz.isAgg22 m0 T0 (by decide) rfl) (TS.m m6 (TS.c m0 (TS.f 1 fo_130_1 m0 (TS.val (r_ld (v := (i64 i)) Tryz.isAgg2 m0 T0 (by decide) rfl) (TS.val (r_ia (i := i) (off' := i) Tryz.underlying22 Tryz.sizeOf5 (.te m4 d_v) T0 rfl (by omega) (by omega)) (TS.val (r_lds (u := (u8 (byteAt B i))) Tryz.isAgg5 m1 d_v T0 (by rw [List.getElem?_map, pack_get hi]; rfl)) ?_)))))))))
 exact TS.val (r_asg T0) (TS.nil (TL.r (.hd .u10) (TL.m m3 (TL.c m0 (TL.f 1 fo_130_1 m0 (TL.val (r_ld (v := (i64 i)) Tryz.isAgg2 m0 T0 (by decide) rfl) (TL.val (n_add i 1 9223372036854775808 T0 .c) (TL.c m4 (TL.f 1 fo_130_1 m0 (TL.s (r_stl (l' := [v, (i64 (i + 1)), (.int .i64 ((-1)))]) Tryz.sizeOf2 a0 T0 T2 (by decide)) (TL.r .u7 (TL.m m0 (TL.rm .h3 (TL.a m0 (TL.rm .h3 (TL.val (r_asg .c) (TL.b (.hd (.hd .u2)) (CT.ret (EX.end_ (.inl rfl) (res2 Tryz.results147 m1 m0) (fun _ hS => ⟨rfl, hS.unbr⟩))))))))))))))))))))
theorem t146 (r i db off n k cap : Nat) (F : Nat → Value) (B : List Bool) (hi : i < (pack B).length) (hl : (pack B).length < 4611686018427387904) (hk : off + k ≤ n) (hc : k < 4611686018427387904) {G : World} {R : List HProp} {w : World} (hS : Sat G w (Br r B i :: blk db n (F) :: R)) :
 CallsR Tryz.prog 146 #[(pt r 0), (.slice (some ⟨db, off, none⟩) k cap)] w (fun v w' => v = .tuple #[i64 (min ((pack B).length - i) k), .nilIface] ∧ Sat G w' (Br r B (i + min ((pack B).length - i) k) :: blk db n (updl F off ((((pack B).drop i).take (min ((pack B).length - i) k)).map u8)) :: R)) := by
 refine calls_in (n := 39) [(0, (pt r 0)), (1, (.slice (some ⟨db, off, none⟩) k cap))] Tryz.func146 rfl rfl hS args2 ?_
 refine CT.q (TL.val (r_asg .c) (TL.val (r_asg .c) (TL.e (CT.seq (CT.seq (CT.br ?_))))))
 intro v pv
 refine CT.still fm (by kernel_rfl) ?_
 refine TS.m m2 (TS.c m0 (TS.f 1 fo_130_1 m0 (TS.val (r_ld (v := (i64 i)) Tryz.isAgg2 m0 T0 (by decide) rfl) (TS.m m6 (TS.c m0 (TS.f 0 fo_130_0 m0 (TS.val (r_ld (v := v) Tryz.isAgg22 m0 T0 (by decide) rfl) (TS.val (r_lens Tryz.underlying22 T0 m1) (TS.val (n_geq i ((pack B).length) T5 T0) (TS.nil (TL.b (.hd .u9) (CT.ifd m0 (fun c15 => ?_) (fun c15 => ?_)))))))))))))
 ·
  exfalso; omega
 refine CT.z (EX.q (TL.m m2 (TL.c m0 (TL.f 2 fo_130_2 m0 (TL.s (r_stl (l' := [v, (i64 i), (.int .i64 ((-1)))]) Tryz.sizeOf3 a0 T0 .c (by decide)) (TL.b .u3 (CT.seq (CT.peek m1 (by omega) ?_))))))))
 intro d d_c d_v d_k d_l
 refine CT.draw 10 fm (by kernel_rfl) ?_
 refine TS.m m3 (TS.m m3 (TS.c m0 (TS.f 0 fo_130_0 m0 (TS.val (r_ld (v := v) Tryz.isAgg22 m0 T0 (by decide) rfl) (TS.m m7 (TS.c m0 (TS.f 1 fo_130_1 m0 (TS.val (r_ld (v := (i64 i)) Tryz.isAgg2 m0 T0 (by decide) rfl) (TS.val (r_slice (off' := i) (m := (pack B).length - i) (c' := d_c - i) Tryz.underlying22 Tryz.sizeOf5 (.te m4 d_v) (.so (j := i) T0 rfl) .no (by first | (show i ≤ (pack B).length; omega) | (show (pack B).length ≤ _; omega)) (by first | (show i ≤ (pack B).length; omega) | (show (pack B).length ≤ _; omega)) (by show (if d_c = i then 0 else 0 + i * 1) = i; rw [if_neg (by omega)]; omega) (by simp) (by simp)) (TS.nil (TL.perm p2 (TL.w (r_copy (l := (min ((pack B).length - i) k)) (ds := (((pack B).drop i).take (min ((pack B).length - i) k)).map u8) el_22 T9 T0 rfl ⟨by (try simp) <;> omega, (Rds.cells (by (try simp) <;> omega) (fun w hS j x hj => hS.slc_cell m2 d_v (sub_get hj))).2⟩ (ones_map one_u8) (by omega)) ?_))))))))))))
 rintro _ w30 ⟨rfl, hS⟩
 exact TW.at hS (TL.rm .h12 (TL.a m0 (TL.r (.hd (.tl (.tl (.tl (.tl (.tl (.tl (.tl (.tl (.tl (.tl (.tl (.hd (.hd .u1)))))))))))))) (TL.m m2 (TL.c m0 (TL.f 1 fo_130_1 m0 (TL.val (r_ld (v := (i64 i)) Tryz.isAgg2 m1 T0 (by decide) rfl) (TL.m m4 (TL.val (n_add i ((min ((pack B).length - i) k)) 9223372036854775808 T1 T0) (TL.c m5 (TL.f 1 fo_130_1 m0 (TL.s (r_stl (l' := [v, (i64 (i + (min ((pack B).length - i) k))), (.int .i64 ((-1)))]) Tryz.sizeOf2 a1 T0 T2 (by decide)) (TL.b .u8 (CT.ret (EX.perm p2 (EX.perm p2 (EX.end_ (.inl rfl) (res2 Tryz.results146 m0 m1) (fun _ hS => ⟨rfl, hS.unbr⟩))))))))))))))))))
end Go.Eng
namespace Go.Eng
open Go Go.Proofs Go.Infl
theorem Br_eq {r i j : Nat} {B : List Bool} (h : i = j) : ∀ m, Br r B i m → Br r B j m := by subst h; exact fun _ h => h
theorem read_step {F : Nat → Value} {off i q k : Nat} {l : List Nat} (hq : q = 0) (hk : i + k ≤ l.length) : updl (updl F off (((l.drop i).take q).map u8)) (off + q) (((l.drop (i + q)).take (min (l.length - (i + q)) (k - q))).map u8) = updl F off (((l.drop i).take k).map u8) := by
 subst hq
 rw [show min (l.length - (i + 0)) (k - 0) = k by omega]
 rfl
theorem t123 (r i db off n k cap : Nat) (F : Nat → Value) (B : List Bool) (hi : i + k ≤ (pack B).length) (hl : (pack B).length < 4611686018427387904) (hk : off + k ≤ n) (hc : k < cap ∨ k = cap) {G : World} {R : List HProp} {w : World} (hS : Sat G w (Br r B i :: blk db n (F) :: R)) :
 CallsR Tryz.prog 123 #[(rif r), (.slice (some ⟨db, off, none⟩) k cap), (i64 k)] w (fun v w' => v = .tuple #[i64 k, .nilIface] ∧ Sat G w' (Br r B (i + k) :: blk db n (updl F off ((((pack B).drop i).take k).map u8)) :: R)) := by
 refine calls_in (n := 46) [(0, (rif r)), (1, (.slice (some ⟨db, off, none⟩) k cap)), (2, (i64 k))] Tryz.func123 rfl rfl hS args3 ?_
 refine CT.q (TL.val (r_asg .c) (TL.val (r_asg .c) (TL.e (CT.seq (CT.q (TL.m m3 (TL.val (r_len Tryz.underlying22 T0) (TL.m m6 (TL.val (n_lss k k T1 T0) (TL.b (.hd .u3) (CT.ifd m0 (fun c12 => ?_) (fun c12 => ?_))))))))))))
 ·
  exfalso; omega
 refine CT.z (EX.seq (CT.seq (CT.block (CT.fold (A' := (blk db n (updl F off ((((pack B).drop i).take 0).map u8)))) a1 (blk_eq rfl rfl) (CT.fold (A' := (Br r B (i + 0))) a0 (Br_eq (by omega)) (CT.loop (X := Nat) (fun gx => [(7, .nilIface), (6, (i64 gx)), (0, (rif r)), (1, (.slice (some ⟨db, off, none⟩) k cap)), (2, (i64 k))]) (fun gx => (Br r B (i + gx)) :: blk db n (updl F off ((((pack B).drop i).take gx).map u8)) :: R) (fun gx => gx = 0 ∨ gx = k) (fun gx => k - gx) 0 (.inl rfl) (.refl _) (.sl 0 5 rfl) ?_))))))
 rintro q hI
 refine CT.seq (CT.q (TL.m m1 (TL.m m5 (TL.val (n_lss q k T1 T0) (TL.m m0 ?_)))))
 by_cases g17 : q < k
 ·
  have hq : q = 0 := by omega
  refine TL.sub (.eq m0 (congrArg Value.bool (decide_eq_true g17)) (.eq m1 (congrArg Value.bool (decide_eq_true g17)) (.cons m2 (.cons m3 (.cons m4 (.cons m5 (.cons m6 (.cons m7 (.cons m8 .nil))))))))) (TL.gv m0 (r_move T4) (TL.gv m1 (r_eqn Tryz.underlying82 T0) (TL.val (r_pickt T2 T0) (TL.b (.hd .u6) (CT.ift m0 ?_)))))
  refine CT.z (EX.seq (CT.block (CT.q (TL.val (r_asg .c) (TL.e (CT.seq (CT.any fm ?_)))))))
  refine TA.t 0 rfl (fun G L => r_move T3) (TA.t 1 rfl (fun G L => r_move T5) (TA.t 2 rfl (fun G L => r_move T4) (TA.t 3 rfl (fun G L => r_slice (off' := off + q) (m := k - q) (c' := cap - q) Tryz.underlying22 Tryz.sizeOf5 T1 (.so (j := q) T0 rfl) .no (by first | (show q ≤ k; omega) | (show k ≤ cap; omega)) (by first | (show q ≤ k; omega) | (show k ≤ cap; omega)) (by show (if cap = q then off else off + q * 1) = off + q; split <;> omega) (by simp) (by simp)) (TA.t 4 rfl (fun G L => r_mkm T3) (TA.t 5 rfl (fun G L => r_nilm T0 (na_49_Read _)) (TA.t 6 rfl (fun G L => r_move T5) (TA.one 7 (by kernel_rfl) (TO.perm p1 ?_))))))))
  refine TO.perm p1 ?_
  refine TO.call rfl (r_inv ce_146 T0 (mt_49_Read _) (.cons T3 .nil)) (fun w hS => t146 r (i + q) db (off + q) n (k - q) (cap - q) (updl F off ((((pack B).drop i).take q).map u8)) B (by omega) (by omega) (by omega) (by omega) hS) ?_
  rintro _ w29 ⟨rfl, hS⟩
  exact TB.at hS (TA.t 8 rfl (fun G L => r_move T0) (TA.t 9 rfl (fun G L => r_ext T0) (TA.t 10 rfl (fun G L => r_ext T1) (TA.sub (.hd (.hd (.hd (.hd (.hd (.hd (.hd (.hd (.hd (.hd (.hd .u1))))))))))) (TA.t 11 rfl (fun G L => r_asg T1) (TA.sub (.hd (.hd (.hd (.hd (.hd (.hd (.hd (.hd (.hd (.hd (.hd (.hd .u1)))))))))))) (TA.t 12 rfl (fun G L => r_asg T1) (TA.done (by kernel_rfl) (EX.sub (.hd (.hd .u11)) (EX.seq (CT.region (TL.m m2 (TL.m m2 (TL.val (n_add q ((min ((pack B).length - (i + q)) (k - q))) 9223372036854775808 T1 T0) (TL.rm .h5 (TL.a m0 (TL.x (.hd .u3) (EX.bnormal (EX.fold (A' := (Br r B (i + k))) a0 (Br_eq (by omega)) (EX.fold (A' := (blk db n (updl F off ((((pack B).drop i).take k).map u8)))) a1 (blk_eq rfl (read_step hq hi)) (EX.again k (.inr rfl) (by omega) (.refl _) (.cons m1 (.eq m0 (by first | rfl | (congr 1 <;> omega)) (.sl 3 3 rfl))))))))))))))))))))))))
 refine TL.sub (.eq m0 (congrArg Value.bool (decide_eq_false g17)) (.eq m1 (congrArg Value.bool (decide_eq_false g17)) (.cons m2 (.cons m3 (.cons m4 (.cons m5 (.cons m6 (.cons m7 (.cons m8 .nil))))))))) (TL.gn m0 (TL.gn m0 (TL.val (r_pickf T0 .c) (TL.b (.hd .u4) (CT.iff_ m0 ?_)))))
 refine CT.sub .u1 (CT.exit (EX.then_exit (EX.then_exit (EX.out (EX.seq (CT.seq (CT.q (TL.m m1 (TL.m m5 (TL.val (n_geq q k T1 T0) (TL.b (.hd .u2) (CT.ifd m0 (fun c37 => ?_) (fun c37 => ?_)))))))))))))
 ·
  exact CT.sub .u1 (CT.region (TL.rm .here (TL.val (r_asg .c) (TL.e (CT.ret (EX.end_ (.inl rfl) (res2 Tryz.results123 m1 m0) (fun _ hS => ⟨by obtain rfl : q = k := (by omega); rfl, by obtain rfl : q = k := (by omega); exact hS⟩)))))))
 exfalso; omega
theorem t107 (r i db off n k cap : Nat) (F : Nat → Value) (B : List Bool) (hi : i + k ≤ (pack B).length) (hl : (pack B).length < 4611686018427387904) (hk : off + k ≤ n) (hc : k < cap ∨ k = cap) {G : World} {R : List HProp} {w : World} (hS : Sat G w (Br r B i :: blk db n (F) :: R)) :
 CallsR Tryz.prog 107 #[(rif r), (.slice (some ⟨db, off, none⟩) k cap)] w (fun v w' => v = .tuple #[i64 k, .nilIface] ∧ Sat G w' (Br r B (i + k) :: blk db n (updl F off ((((pack B).drop i).take k).map u8)) :: R)) := by
 refine calls_in (n := 13) [(0, (rif r)), (1, (.slice (some ⟨db, off, none⟩) k cap))] Tryz.func107 rfl rfl hS args2 ?_
 refine CT.q (TL.val (r_asg .c) (TL.val (r_asg .c) (TL.q (TL.m m2 (TL.m m4 (TL.m m5 (TL.val (r_len Tryz.underlying22 T0) (TL.perm p1 (TL.perm p1 (TL.call (r_call ce_123 (.cons T3 (.cons T2 (.cons T0 .nil)))) (fun w hS => t123 r i db off n k cap (F) B (by omega) (by omega) (by omega) (by omega) hS) ?_))))))))))
 rintro _ w10 ⟨rfl, hS⟩
 exact TW.at hS (TL.val (r_ext T0) (TL.val (r_ext T1) (TL.rm .h8 (TL.a m1 (TL.rm .h8 (TL.a m1 (TL.b (.hd (.hd .u9)) (CT.ret (EX.end_ (.inl rfl) (res2 Tryz.results107 m1 m0) (fun _ hS => ⟨rfl, hS⟩))))))))))
end Go.Eng
namespace Go.Infl
def updh (hist : Nat → Nat) (off : Nat) (xs : List Nat) (j : Nat) : Nat := if off ≤ j ∧ j < off + xs.length then xs.getD (j - off) 0 else hist j
def Win (hist : Nat → Nat) (wr : Nat) (full : Bool) (h : List Nat) : Prop :=
 wr ≤ 32768 ∧ (full = false → h.length = wr) ∧ (full = true → 32768 ≤ h.length) ∧ ∀ j, j < h.length → j < 32768 → hist ((wr + 32767 - j) % 32768) = h.getD (h.length - 1 - j) 0
theorem Win.write {hist : Nat → Nat} {wr : Nat} {full : Bool} {h xs : List Nat} (H : Win hist wr full h) (hx : wr + xs.length ≤ 32768) : Win (updh hist wr xs) (wr + xs.length) full (h ++ xs) := by
 obtain ⟨h1, h2, h3, h4⟩ := H
 refine ⟨hx, fun hf => by rw [List.length_append, h2 hf], fun hf => by rw [List.length_append]; have := h3 hf; omega, ?_⟩
 intro j hj1 hj2
 rw [List.length_append] at hj1
 unfold updh
 by_cases hj : j < xs.length
 ·
  have e : (wr + xs.length + 32767 - j) % 32768 = wr + (xs.length - 1 - j) := by omega
  rw [e, if_pos (by omega), show wr + (xs.length - 1 - j) - wr = xs.length - 1 - j by omega]
  simp only [List.getD_eq_getElem?_getD]
  rw [List.length_append, List.getElem?_append_right (by omega)]
  congr 2
  omega
 have hlen : h.length ≤ 32768 → full = false → h.length ≤ wr := fun _ hf => by rw [h2 hf]; exact Nat.le_refl _
 have e : (wr + xs.length + 32767 - j) % 32768 = (wr + 32767 - (j - xs.length)) % 32768 := by congr 1; omega
 rw [e]
 have hn : ¬ (wr ≤ (wr + 32767 - (j - xs.length)) % 32768 ∧ (wr + 32767 - (j - xs.length)) % 32768 < wr + xs.length) := by omega
 rw [if_neg hn, h4 (j - xs.length) (by omega) (by omega)]
 simp only [List.getD_eq_getElem?_getD]
 rw [List.length_append, List.getElem?_append_left (by omega)]
 congr 2
 omega
theorem Win.flush {hist : Nat → Nat} {wr : Nat} {full : Bool} {h : List Nat} (H : Win hist wr full h) : Win hist (wr % 32768) (full || decide (wr = 32768)) h := by
 obtain ⟨h1, h2, h3, h4⟩ := H
 refine ⟨by omega, ?_, ?_, ?_⟩
 ·
  intro hf
  rw [Bool.or_eq_false_iff] at hf
  have := of_decide_eq_false hf.2
  rw [h2 hf.1]; omega
 ·
  intro hf
  cases hb : full with
  | true => exact h3 hb
  | false =>
   rw [hb, Bool.false_or] at hf
   have := of_decide_eq_true hf
   rw [h2 hb]; omega
 intro j hj1 hj2
 rw [← h4 j hj1 hj2]
 congr 1
 omega
theorem Win.tail {hist : Nat → Nat} {wr rd : Nat} {full : Bool} {del un : List Nat} (H : Win hist wr full (del ++ un)) (hr : rd ≤ wr) (hu : un.length = wr - rd) : ∀ j x, un[j]? = some x → hist (rd + j) = x := by
 obtain ⟨h1, h2, h3, h4⟩ := H
 intro j x hj
 have hlt : j < un.length := (List.getElem?_eq_some_iff.1 hj).1
 have := h4 (un.length - 1 - j) (by rw [List.length_append]; omega) (by omega)
 rw [show (wr + 32767 - (un.length - 1 - j)) % 32768 = rd + j by omega] at this
 rw [this]
 simp only [List.getD_eq_getElem?_getD]
 rw [List.length_append, List.getElem?_append_right (by omega), show del.length + un.length - 1 - (un.length - 1 - j) - del.length = j by omega, hj]
 rfl
theorem Win.zero : Win (fun _ => 0) 0 false [] := ⟨by decide, fun _ => rfl, fun h => (by cases h), fun j hj => absurd hj (Nat.not_lt_zero j)⟩
def Held (B : List Bool) (k i b nb : Nat) : Prop := k + nb = 8 * i ∧ b = packByte ((B.drop k).take nb)
theorem packByte_app : ∀ (l l' : List Bool), packByte (l ++ l') = packByte l + packByte l' * 2 ^ l.length := by
 intro l
 induction l with
 | nil => intro l'; simp [packByte]
 | cons c l ih =>
  intro l'
  simp only [List.cons_append, packByte, ih, List.length_cons, Nat.pow_succ]
  rw [Nat.mul_add, ← Nat.mul_assoc, Nat.mul_comm 2 (packByte l'), Nat.mul_assoc, Nat.mul_comm 2 (2 ^ l.length)]
  omega
theorem Held.lt {B : List Bool} {k i b nb : Nat} (H : Held B k i b nb) : b < 2 ^ nb := by
 rw [H.2]; exact packByte_lt (by rw [List.length_take]; omega)
theorem Held.more {B : List Bool} {k i b nb : Nat} (H : Held B k i b nb) (hi : 8 * i < B.length) : Held B k (i + 1) (b ||| byteAt B i * 2 ^ nb) (nb + 8) := by
 refine ⟨by have := H.1; omega, ?_⟩
 rw [or_add H.lt, List.take_add, packByte_app, H.2]
 congr 1
 have hk : k + nb = 8 * i := H.1
 rw [List.drop_drop, hk]
 unfold byteAt
 congr 1
 rw [List.length_take, List.length_drop, Nat.min_eq_left (by omega)]
theorem Held.take {B : List Bool} {k i b nb m : Nat} (H : Held B k i b nb) (hm : m ≤ nb) : Held B (k + m) i (b / 2 ^ m) (nb - m) := by
 refine ⟨by have := H.1; omega, ?_⟩
 rw [H.2]
 have e : (B.drop k).take nb = ((B.drop k).take nb).take m ++ ((B.drop (k + m)).take (nb - m)) := by
  conv => lhs; rw [← List.take_append_drop m ((B.drop k).take nb)]
  congr 1
  rw [List.drop_take, List.drop_drop]
 rcases Nat.lt_or_ge ((B.drop k).take nb).length m with hl | hl
 ·
  rw [Nat.div_eq_of_lt (packByte_lt (Nat.le_of_lt hl))]
  rw [show (B.drop (k + m)) = [] by rw [List.length_take, List.length_drop] at hl; exact List.drop_eq_nil_of_le (by omega)]
  simp [packByte]
 conv => lhs; rw [e]
 rw [packByte_app, List.length_take, Nat.min_eq_left hl, Nat.add_mul_div_right _ _ (Nat.two_pow_pos m), Nat.div_eq_of_lt (packByte_lt (by rw [List.length_take]; omega)), Nat.zero_add]
theorem Held.low {B : List Bool} {k i b nb m x : Nat} {rest : List Bool} (H : Held B k i b nb) (hm : m ≤ nb) (hx : x < 2 ^ m) (hd : B.drop k = nbits m x ++ rest) : b % 2 ^ m = x := by
 apply Nat.eq_of_testBit_eq
 intro j
 rw [Nat.testBit_mod_two_pow, H.2]
 by_cases hj : j < m
 ·
  simp only [hj, decide_true, Bool.true_and]
  rw [Nat.testBit_eq_decide_div_mod_eq, packByte_get, hd, List.getElem?_take, if_pos (by omega), List.getElem?_append_left (by rw [nbits_length]; exact hj)]
  unfold nbits
  rw [List.getElem?_map, List.getElem?_range hj]
  cases h : x.testBit j <;> simp [h]
 simp only [hj, decide_false, Bool.false_and]
 exact (Nat.testBit_lt_two_pow (Nat.lt_of_lt_of_le hx (Nat.pow_le_pow_right (by decide) (by omega)))).symm
theorem Held.zero {B : List Bool} {i : Nat} : Held B (8 * i) i 0 0 := ⟨rfl, by simp [packByte]⟩
theorem packByte_nbits {n x : Nat} (h : x < 2 ^ n) : packByte (nbits n x) = x := by
 apply Nat.eq_of_testBit_eq
 intro j
 rw [Nat.testBit_eq_decide_div_mod_eq, packByte_get]
 by_cases hj : j < n
 ·
  unfold nbits
  rw [List.getElem?_map, List.getElem?_range hj]
  cases h : x.testBit j <;> simp [h]
 rw [List.getElem?_eq_none (by rw [nbits_length]; omega)]
 exact (Nat.testBit_lt_two_pow (Nat.lt_of_lt_of_le h (Nat.pow_le_pow_right (by decide) (by omega)))).symm
theorem bits8_at {xs : List Nat} {rest : List Bool} {j x : Nat} (hj : xs[j]? = some x) : ((xs.flatMap (nbits 8) ++ rest).drop (8 * j)).take 8 = nbits 8 x := by
 obtain ⟨hlt, hx⟩ := List.getElem?_eq_some_iff.1 hj
 have e : xs.flatMap (nbits 8) = (xs.take j).flatMap (nbits 8) ++ (nbits 8 x ++ (xs.drop (j + 1)).flatMap (nbits 8)) := by
  conv => lhs; rw [← List.take_append_drop j xs, List.drop_eq_getElem_cons hlt, hx]
  rw [List.flatMap_append, List.flatMap_cons]
 have hl : ((xs.take j).flatMap (nbits 8)).length = 8 * j := by rw [bits8_length, List.length_take]; omega
 rw [e, List.append_assoc, List.append_assoc, List.drop_append, hl, Nat.sub_self, List.drop_of_length_le (by omega)]
 simp only [List.nil_append, List.drop_zero]
 rw [List.take_append_of_le_length (by rw [nbits_length]; exact Nat.le_refl _), List.take_of_length_le (by rw [nbits_length]; exact Nat.le_refl _)]
theorem bytes_at {B rest : List Bool} {xs : List Nat} {i m : Nat} (hd : B.drop (8 * i) = xs.flatMap (nbits 8) ++ rest) (hb : ∀ x ∈ xs, x < 256) (hm : m ≤ xs.length) : ((pack B).drop i).take m = xs.take m := by
 apply List.ext_getElem?
 intro j
 rw [List.getElem?_take, List.getElem?_take]
 split
 ·
  rename_i hj
  obtain ⟨x, hx⟩ : ∃ x, xs[j]? = some x := ⟨_, List.getElem?_eq_getElem (by omega)⟩
  have hl := congrArg List.length hd
  rw [List.length_drop, List.length_append, bits8_length] at hl
  rw [List.getElem?_drop, pack_get (by rw [pack_length]; omega), hx]
  unfold byteAt
  rw [Nat.mul_add, ← List.drop_drop, hd, bits8_at hx, packByte_nbits (hb x (List.mem_of_getElem? hx))]
 rfl
theorem bits8_drop {xs : List Nat} {B rest : List Bool} {i m : Nat} (hd : B.drop (8 * i) = xs.flatMap (nbits 8) ++ rest) (hm : m ≤ xs.length) : B.drop (8 * (i + m)) = (xs.drop m).flatMap (nbits 8) ++ rest := by
 have e : xs.flatMap (nbits 8) = (xs.take m).flatMap (nbits 8) ++ (xs.drop m).flatMap (nbits 8) := by rw [← List.flatMap_append, List.take_append_drop]
 rw [e, List.append_assoc] at hd
 have := drop_app hd
 rw [bits8_length, List.length_take, Nat.min_eq_left hm] at this
 rwa [Nat.mul_add]
def After (fin : Bool) (pos : Nat) (rest : List Bool) (h : List Nat) (hF : List Nat × Bool) : Prop := (fin = true → h = hF.1 ∧ hF.2 = true) ∧ (fin = false → ∃ st tail, rest = st ++ tail ∧ Strm pos st h hF)
end Go.Infl
namespace Go.Eng
open Go Go.Proofs Go.Infl
theorem shl_lt {B : List Bool} {i k : Nat} (h : k ≤ 24) : byteAt B i * 2 ^ k < 4294967296 := by
 have h1 : 2 ^ k ≤ 16777216 := Nat.pow_le_pow_right (by decide) h
 have h2 := byteAt_lt B i
 calc byteAt B i * 2 ^ k ≤ 255 * 16777216 := Nat.mul_le_mul (by omega) h1
  _ < _ := by decide
def EOFIs (G : World) (ea : Addr) : Prop := G.cell? ⟨0, 0, none⟩ = some (.iface 187 (.pointer (some ea)))
def finS (s : DS) (hb : Nat) (eof : Value) : DS :=
 if s.final = true then (if s.rd < s.wr then { s with toRead := .slice (some ⟨hb, s.rd, none⟩) (s.wr - s.rd) (32768 - s.rd), wr := s.wr % 32768, rd := s.wr % 32768, full := s.full || decide (s.wr = 32768), err := eof, step := .func (.func 68) #[] #[] }
  else { s with err := eof, step := .func (.func 68) #[] #[] })
 else { s with step := .func (.func 68) #[] #[] }
theorem t86 (f r i : Nat) (B : List Bool) (s : DS) (hi : i < (pack B).length) (hl : (pack B).length < 9223372036854775807) (h1 : s.roff < 9223372036854775807) (h2 : s.b < 4294967296) (h3 : s.nb ≤ 24) {G : World} {R : List HProp} {w : World} (hS : Sat G w (blk f 1054 (D { s with r := rif r }) :: Br r B i :: R)) :
 CallsR Tryz.prog 86 #[(pt f 0)] w (fun v w' => v = .nilIface ∧ Sat G w' (blk f 1054 (D { s with r := rif r, roff := s.roff + 1, b := s.b ||| byteAt B i * 2 ^ s.nb, nb := s.nb + 8 }) :: Br r B (i + 1) :: R)) := by
 have hbl := byteAt_lt B i
 refine calls_in (n := 45) [(0, (pt f 0))] Tryz.func86 rfl rfl hS args1 ?_
 refine CT.q (TL.val (r_asg .c) (TL.q (TL.m m1 (TL.c m0 (TL.f 0 fo_103_0 m0 (TL.val (r_ld (v := (rif r)) Tryz.isAgg87 m0 T0 (by decide) (Dget_r _)) (TL.perm p1 (TL.call (r_inv ce_147 T0 (mt_49_ReadByte _) .nil) (fun w hS => t147 r i B (by omega) (by omega) hS) ?_))))))))
 rintro _ w10 ⟨rfl, hS⟩
 refine TW.at hS (TL.m m0 (TL.val (r_ext T0) (TL.val (r_ext T1) (TL.a m1 (TL.a m1 (TL.b (.hd (.hd .u8)) (CT.seq (CT.q (TL.m m0 (TL.val (r_nen Tryz.underlying82 T0) (TL.b (.hd .u1) (CT.iff_ m0 ?_))))))))))))
 refine CT.z (EX.q (TL.m m3 (TL.c m0 (TL.f 2 fo_103_2 m0 (TL.val (r_ld (v := (i64 s.roff)) Tryz.isAgg2 m1 T0 (by decide) (Dget_roff _)) (TL.val (n_add s.roff 1 9223372036854775808 T0 .c) (TL.c m4 (TL.f 2 fo_103_2 m0 (TL.s (r_st (F' := D { s with r := rif r, roff := s.roff + 1 }) Tryz.sizeOf2 (Dsat_roff ((s.roff + 1))) a1 T0 T2 (by decide)) (TL.b .u7 (CT.seq ?_)))))))))))
 have hb8 : byteAt B i * 2 ^ s.nb < 4294967296 := shl_lt h3
 refine CT.draw 14 fm (by kernel_rfl) ?_
 refine TS.m m3 (TS.c m0 (TS.f 3 fo_103_3 m0 (TS.val (r_ld (v := (u32 s.b)) Tryz.isAgg89 m1 T0 (by decide) (Dget_b _)) (TS.m m5 (TS.val (n_conv ((byteAt B i)) 4294967296 ⟨_, Tryz.underlying5⟩ Tryz.underlying89 T0 rfl (by have := byteAt_lt B i; omega)) (TS.m m9 (TS.c m0 (TS.f 4 fo_103_4 m0 (TS.val (r_ld (v := (u64 s.nb)) Tryz.isAgg90 m1 T0 (by decide) (Dget_nb _)) (TS.val (n_shl ((byteAt B i)) s.nb 4294967296 T4 T0 rfl rfl (show _ ≤ 32 by omega) (by omega)) (TS.val (n_or s.b (((byteAt B i) * 2 ^ s.nb)) 4294967296 T7 T0 rfl rfl (by omega) (by omega)) (TS.c m11 (TS.f 3 fo_103_3 m0 (TS.nil (TL.s (r_st (F' := D { s with r := rif r, roff := s.roff + 1, b := s.b ||| ((byteAt B i) * 2 ^ s.nb) }) Tryz.sizeOf89 (Dsat_b ((s.b ||| ((byteAt B i) * 2 ^ s.nb)))) a1 T0 T2 (by decide)) (TL.r (.tl (.tl (.tl (.tl (.tl (.tl (.tl (.tl (.tl (.tl (.tl (.tl (.tl (.tl (.hd .u1))))))))))))))) (TL.m m2 (TL.c m0 (TL.f 4 fo_103_4 m0 (TL.val (r_ld (v := (u64 s.nb)) Tryz.isAgg90 m1 T0 (by decide) (Dget_nb _)) (TL.val (n_add s.nb 8 18446744073709551616 T0 .c) (TL.c m4 (TL.f 4 fo_103_4 m0 (TL.s (r_st (F' := D { s with r := rif r, roff := s.roff + 1, b := s.b ||| ((byteAt B i) * 2 ^ s.nb), nb := s.nb + 8 }) Tryz.sizeOf90 (Dsat_nb ((s.nb + 8))) a1 T0 T2 (by decide)) (TL.r .u7 (TL.rm .h1 (TL.val (r_asg .c) (TL.e (CT.ret (EX.perm p1 ?_))))))))))))))))))))))))))))))
 exact EX.end_ (.inl rfl) (res1 Tryz.results86 m0) (fun _ hS => ⟨rfl, hS⟩)
theorem t109 {G : World} (f hb : Nat) (s : DS) {ea : Addr} (h1 : s.rd ≤ s.wr) (h2 : s.wr < 32768) (hE : EOFIs G ea) {R : List HProp} {w : World} (hS : Sat G w (blk f 1054 (D { s with hist := Hw hb }) :: R)) :
 CallsR Tryz.prog 109 #[(pt f 0)] w (fun v w' => v = .tuple #[] ∧ Sat G w' (blk f 1054 (D (finS { s with hist := Hw hb } hb (.iface 187 (.pointer (some ea))))) :: R)) := by
 refine calls_in (n := 25) [(0, (pt f 0))] Tryz.func109 rfl rfl hS args1 ?_
 refine CT.seq (CT.q (TL.m m0 (TL.c m0 (TL.f 1047 fo_103_13 m0 (TL.val (r_ld (v := (.bool s.final)) Tryz.isAgg4 m0 T0 (by decide) (Dget_final _)) (TL.b (.hd .u3) (CT.iff m0 (fun c5 => ?_) (fun c5 => ?_))))))))
 ·
  refine CT.sub .u1 (CT.seq (CT.q (TL.m m0 (TL.c m0 (TL.f 1037 fo_103_9 m0 (TL.call (r_call ce_124 (.cons T0 .nil)) (fun w hS => t124 f hb { s with hist := Hw hb } (by show s.wr ≤ 32768; omega) (by show s.rd ≤ s.wr; omega) hS) ?_))))))
  rintro z9 w9 ⟨hz9, hS⟩
  replace hz9 : z9 = (i64 (s.wr - s.rd)) := hz9
  subst hz9
  refine TW.at hS (TL.val (n_gtr ((s.wr - s.rd)) 0 T0 .c) (TL.b (.hd .u4) (CT.ifd m0 (fun c10 => ?_) (fun c10 => ?_))))
  ·
   have h10 : s.rd < s.wr := by omega
   refine CT.sub .u1 (CT.region (TL.m m0 (TL.m m1 (TL.c m0 (TL.f 1037 fo_103_9 m0 (TL.call (r_call ce_108 (.cons T0 .nil)) (fun w hS => t108 f hb { s with hist := Hw hb } (by show s.rd ≤ s.wr; omega) (by show s.wr ≤ 32768; omega) (by show s.rd < 32768; omega) hS) ?_))))))
   rintro z15 w15 ⟨hz15, hS⟩
   replace hz15 : z15 = (.slice (some ⟨hb, s.rd, none⟩) ((s.wr - s.rd)) ((32768 - s.rd))) := hz15
   subst hz15
   exact TW.at hS (TL.c m4 (TL.f 1049 fo_103_15 m0 (TL.s (r_st (F' := D { s with hist := Hw hb, wr := s.wr % 32768, rd := s.wr % 32768, full := s.full || decide (s.wr = 32768), toRead := .slice (some ⟨hb, s.rd, none⟩) ((s.wr - s.rd)) ((32768 - s.rd)) }) Tryz.sizeOf22 (Dsat_toRead (.slice (some ⟨hb, s.rd, none⟩) ((s.wr - s.rd)) ((32768 - s.rd)))) a0 T0 T2 (by decide)) (TL.b .u7 (CT.region (TL.m m0 (TL.val (r_ldc (v := (.iface 187 (.pointer (some ea)))) Tryz.isAgg82 .g (fun w hS => hS.base_some hE)) (TL.c m1 (TL.f 1048 fo_103_14 m0 (TL.s (r_st (F' := D { s with hist := Hw hb, wr := s.wr % 32768, rd := s.wr % 32768, full := s.full || decide (s.wr = 32768), err := .iface 187 (.pointer (some ea)), toRead := .slice (some ⟨hb, s.rd, none⟩) ((s.wr - s.rd)) ((32768 - s.rd)) }) Tryz.sizeOf82 (Dsat_err (.iface 187 (.pointer (some ea)))) a0 T0 T2 (by decide)) (TL.b .u4 (CT.region (TL.m m0 (TL.c m0 (TL.f 1045 fo_103_11 m0 (TL.s (r_st (F' := D { s with hist := Hw hb, wr := s.wr % 32768, rd := s.wr % 32768, full := s.full || decide (s.wr = 32768), step := .func (.func 68) #[] #[], err := .iface 187 (.pointer (some ea)), toRead := .slice (some ⟨hb, s.rd, none⟩) ((s.wr - s.rd)) ((32768 - s.rd)) }) Tryz.sizeOf100 (Dsat_step (.func (.func 68) #[] #[])) a0 T0 .f (by decide)) (TL.x .u3 (EX.end_ (.inr rfl) (res0 Tryz.results109) (fun _ hS => ⟨rfl, hS.D (by simp [finS, c5, h10])⟩)))))))))))))))))))
  have h10 : ¬ s.rd < s.wr := by omega
  exact CT.z (EX.seq (CT.region (TL.m m0 (TL.val (r_ldc (v := (.iface 187 (.pointer (some ea)))) Tryz.isAgg82 .g (fun w hS => hS.base_some hE)) (TL.c m1 (TL.f 1048 fo_103_14 m0 (TL.s (r_st (F' := D { s with hist := Hw hb, err := .iface 187 (.pointer (some ea)) }) Tryz.sizeOf82 (Dsat_err (.iface 187 (.pointer (some ea)))) a0 T0 T2 (by decide)) (TL.b .u4 (CT.region (TL.m m0 (TL.c m0 (TL.f 1045 fo_103_11 m0 (TL.s (r_st (F' := D { s with hist := Hw hb, step := .func (.func 68) #[] #[], err := .iface 187 (.pointer (some ea)) }) Tryz.sizeOf100 (Dsat_step (.func (.func 68) #[] #[])) a0 T0 .f (by decide)) (TL.x .u3 (EX.end_ (.inr rfl) (res0 Tryz.results109) (fun _ hS => ⟨rfl, hS.D (by simp [finS, c5, h10])⟩))))))))))))))))
 exact CT.z (EX.seq (CT.region (TL.m m0 (TL.c m0 (TL.f 1045 fo_103_11 m0 (TL.s (r_st (F' := D { s with hist := Hw hb, step := .func (.func 68) #[] #[] }) Tryz.sizeOf100 (Dsat_step (.func (.func 68) #[] #[])) a0 T0 .f (by decide)) (TL.x .u3 (EX.end_ (.inr rfl) (res0 Tryz.results109) (fun _ hS => ⟨rfl, hS.D (by simp [finS, c5])⟩)))))))))
end Go.Eng
namespace Go.Infl
def sAt (ls : List Nat) (n : Nat) : Nat := 2 * nx ls n * 2 ^ (15 - n)
def vAt (ls : List Nat) (i : Nat) : Nat := codeOf ls i * 2 ^ (15 - ls.getD i 0)
theorem sAt_succ {ls : List Nat} {n : Nat} (h1 : 1 ≤ n) (h2 : n ≤ 14) : sAt ls (n + 1) = sAt ls n + ls.count n * 2 ^ (15 - n) := by
 unfold sAt
 have e : nx ls (n + 1) = 2 * nx ls n + ls.count n := by rw [nx, if_neg (by omega)]
 rw [e, show 15 - n = (15 - (n + 1)) + 1 by omega, Nat.pow_succ, ← Nat.add_mul, Nat.mul_comm 2 (2 * nx ls n + ls.count n), Nat.mul_assoc, Nat.mul_comm 2 (2 ^ (15 - (n + 1)))]
theorem sAt_mono {ls : List Nat} {n m : Nat} (h1 : 1 ≤ n) (h2 : n ≤ m) (h3 : m ≤ 15) : sAt ls n ≤ sAt ls m := by
 induction m with
 | zero => omega
 | succ m ih =>
  rcases Nat.lt_or_ge n (m + 1) with h | h
  ·
   exact Nat.le_trans (ih (by omega) (by omega)) (by rw [sAt_succ (by omega) (by omega)]; omega)
  obtain rfl : n = m + 1 := by omega
  exact Nat.le_refl _
theorem vAt_eq (ls : List Nat) (i : Nat) : vAt ls i = sAt ls (ls.getD i 0) + (ls.take i).count (ls.getD i 0) * 2 ^ (15 - ls.getD i 0) := by
 unfold vAt codeOf sAt
 rw [Nat.add_mul]
theorem count_take_lt {ls : List Nat} {i : Nat} (h : i < ls.length) : (ls.take i).count (ls.getD i 0) + 1 ≤ ls.count (ls.getD i 0) := by
 have hx : ls[i]? = some (ls.getD i 0) := by rw [List.getD_eq_getElem?_getD, List.getElem?_eq_getElem h]; rfl
 have e := take_count_succ (n := ls.getD i 0) hx
 rw [if_pos rfl] at e
 rw [← e]
 exact List.Sublist.count_le _ (List.take_sublist _ _)
theorem count_take_mono {ls : List Nat} {i j n : Nat} (h : i ≤ j) : (ls.take i).count n ≤ (ls.take j).count n := by
 have : ls.take i = (ls.take j).take i := by rw [List.take_take, Nat.min_eq_left h]
 rw [this]
 exact List.Sublist.count_le _ (List.take_sublist _ _)
theorem vAt_end {ls : List Nat} {i : Nat} (h : LOk ls i) : vAt ls i + 2 ^ (15 - ls.getD i 0) ≤ sAt ls (ls.getD i 0) + ls.count (ls.getD i 0) * 2 ^ (15 - ls.getD i 0) := by
 rw [vAt_eq]
 have := Nat.mul_le_mul_right (2 ^ (15 - ls.getD i 0)) (count_take_lt h.1)
 rw [Nat.add_mul, Nat.one_mul] at this
 omega
theorem vAt_lt {ls : List Nat} {i j : Nat} (hi : LOk ls i) (hj : LOk ls j) (h : ls.getD i 0 < ls.getD j 0 ∨ ls.getD i 0 = ls.getD j 0 ∧ i < j) : vAt ls i + 2 ^ (15 - ls.getD i 0) ≤ vAt ls j := by
 rcases h with h | ⟨h, h'⟩
 ·
  refine Nat.le_trans (vAt_end hi) ?_
  have h1 := hi.2.1
  have h2 := hj.2.2
  rw [← sAt_succ h1 (by omega)]
  refine Nat.le_trans (sAt_mono (m := ls.getD j 0) (by omega) (by omega) h2) ?_
  rw [vAt_eq]; omega
 rw [vAt_eq, vAt_eq, h]
 have hx : ls[i]? = some (ls.getD j 0) := by rw [← h, List.getD_eq_getElem?_getD, List.getElem?_eq_getElem hi.1]; rfl
 have e := take_count_succ (n := ls.getD j 0) hx
 rw [if_pos rfl] at e
 have := count_take_mono (ls := ls) (n := ls.getD j 0) (show i + 1 ≤ j from h')
 rw [e] at this
 have := Nat.mul_le_mul_right (2 ^ (15 - ls.getD j 0)) this
 rw [Nat.add_mul, Nat.one_mul] at this
 omega
theorem code_pfx {ls : List Nat} {i j : Nat} (hi : LOk ls i) (hj : LOk ls j) (hle : ls.getD i 0 ≤ ls.getD j 0) (h : codeOf ls j / 2 ^ (ls.getD j 0 - ls.getD i 0) = codeOf ls i) : i = j := by
 have hp := Nat.two_pow_pos (15 - ls.getD i 0)
 have e : 2 ^ (15 - ls.getD i 0) = 2 ^ (ls.getD j 0 - ls.getD i 0) * 2 ^ (15 - ls.getD j 0) := by
  rw [← Nat.pow_add]; congr 1; have := hj.2.2; omega
 have h1 : vAt ls i ≤ vAt ls j := by
  unfold vAt
  rw [← h, e, ← Nat.mul_assoc]
  exact Nat.mul_le_mul_right _ (Nat.div_mul_le_self _ _)
 have h2 : vAt ls j < vAt ls i + 2 ^ (15 - ls.getD i 0) := by
  unfold vAt
  rw [← h, e, ← Nat.mul_assoc, ← Nat.add_mul]
  refine Nat.mul_lt_mul_of_pos_right ?_ (Nat.two_pow_pos _)
  exact Nat.lt_div_mul_add (Nat.two_pow_pos _)
 rcases Nat.lt_trichotomy (ls.getD i 0) (ls.getD j 0) with hl | hl | hl
 ·
  exact absurd (vAt_lt hi hj (.inl hl)) (by omega)
 ·
  rcases Nat.lt_trichotomy i j with hij | hij | hij
  ·
   exact absurd (vAt_lt hi hj (.inr ⟨hl, hij⟩)) (by omega)
  ·
   exact hij
  have := vAt_lt hj hi (.inr ⟨hl.symm, hij⟩)
  have := Nat.two_pow_pos (15 - ls.getD j 0)
  omega
 omega
end Go.Infl
namespace Go.Infl
theorem cbits_cons (n x : Nat) : cbits (n + 1) x = x.testBit n :: cbits n x := by
 unfold cbits
 rw [nbits_succ, List.reverse_append]
 rfl
theorem code_next {x l j : Nat} (h : j < l) : 2 * (2 ^ j + x / 2 ^ (l - j)) + (x.testBit (l - (j + 1))).toNat = 2 ^ (j + 1) + x / 2 ^ (l - (j + 1)) := by
 have e : l - j = (l - (j + 1)) + 1 := by omega
 have h1 : x / 2 ^ (l - j) = x / 2 ^ (l - (j + 1)) / 2 := by rw [e, Nat.pow_succ, Nat.div_div_eq_div_mul]
 have h2 : (x.testBit (l - (j + 1))).toNat = x / 2 ^ (l - (j + 1)) % 2 := by
  rw [Nat.testBit_eq_decide_div_mod_eq]
  have : x / 2 ^ (l - (j + 1)) % 2 < 2 := Nat.mod_lt _ (by decide)
  rcases Nat.lt_or_ge (x / 2 ^ (l - (j + 1)) % 2) 1 with h | h
  ·
   rw [show x / 2 ^ (l - (j + 1)) % 2 = 0 by omega]; rfl
  rw [show x / 2 ^ (l - (j + 1)) % 2 = 1 by omega]; rfl
 rw [h1, h2, Nat.pow_succ]
 omega
def ckey (ls : List Nat) (i : Nat) : Nat := 2 ^ ls.getD i 0 + codeOf ls i
def Fits (ls : List Nat) : Prop := ∀ i, LOk ls i → codeOf ls i < 2 ^ ls.getD i 0
theorem key_inj {ls : List Nat} (hf : Fits ls) {i j : Nat} (hi : LOk ls i) (hj : LOk ls j) (h : ckey ls i = ckey ls j) : i = j := by
 have h1 := hf i hi
 have h2 := hf j hj
 unfold ckey at h
 have hl : ls.getD i 0 = ls.getD j 0 := by
  rcases Nat.lt_trichotomy (ls.getD i 0) (ls.getD j 0) with hl | hl | hl
  ·
   have : 2 ^ (ls.getD i 0 + 1) ≤ 2 ^ ls.getD j 0 := Nat.pow_le_pow_right (by decide) hl
   rw [Nat.pow_succ] at this; omega
  ·
   exact hl
  have : 2 ^ (ls.getD j 0 + 1) ≤ 2 ^ ls.getD i 0 := Nat.pow_le_pow_right (by decide) hl
  rw [Nat.pow_succ] at this; omega
 refine code_pfx hi hj (by omega) ?_
 rw [hl, Nat.sub_self, Nat.pow_zero, Nat.div_one]
 rw [hl] at h
 omega
theorem key_ahead {ls : List Nat} (hf : Fits ls) {i k j : Nat} (hi : LOk ls i) (hk : LOk ls k) (hj : j < ls.getD k 0) (h : ckey ls i = 2 ^ j + codeOf ls k / 2 ^ (ls.getD k 0 - j)) : False := by
 have h1 := hf i hi
 have h2 := hf k hk
 have h3 : codeOf ls k / 2 ^ (ls.getD k 0 - j) < 2 ^ j := by
  rw [Nat.div_lt_iff_lt_mul (Nat.two_pow_pos _), ← Nat.pow_add, show j + (ls.getD k 0 - j) = ls.getD k 0 by omega]
  exact h2
 unfold ckey at h
 have hl : ls.getD i 0 = j := by
  generalize codeOf ls k / 2 ^ (ls.getD k 0 - j) = q at h h3
  rcases Nat.lt_trichotomy (ls.getD i 0) j with hl | hl | hl
  ·
   have : 2 ^ (ls.getD i 0 + 1) ≤ 2 ^ j := Nat.pow_le_pow_right (by decide) hl
   rw [Nat.pow_succ] at this; omega
  ·
   exact hl
  have : 2 ^ (j + 1) ≤ 2 ^ ls.getD i 0 := Nat.pow_le_pow_right (by decide) hl
  rw [Nat.pow_succ] at this; omega
 have e : i = k := by
  refine code_pfx hi hk (by omega) ?_
  rw [hl]
  rw [hl] at h
  omega
 subst e
 omega
end Go.Infl
namespace Go.Infl
theorem fits_of {ls : List Nat} (h : nx ls 16 ≤ 2 ^ 15) : Fits ls := by
 intro i hi
 have h1 := vAt_end hi
 have h15 := hi.2.2
 have e16 : nx ls 16 = sAt ls 15 + ls.count 15 := by
  show 2 * nx ls 15 + (if 15 = 0 then 0 else ls.count 15) = _
  unfold sAt
  simp
 have h2 : sAt ls (ls.getD i 0) + ls.count (ls.getD i 0) * 2 ^ (15 - ls.getD i 0) ≤ 2 ^ 15 := by
  rcases Nat.lt_or_ge (ls.getD i 0) 15 with hl | hl
  ·
   rw [← sAt_succ hi.2.1 (by omega)]
   have := sAt_mono (ls := ls) (n := ls.getD i 0 + 1) (m := 15) (by omega) (by omega) (by omega)
   omega
  rw [show ls.getD i 0 = 15 by omega]
  simp only [Nat.sub_self, Nat.pow_zero, Nat.mul_one]
  omega
 have h3 : codeOf ls i * 2 ^ (15 - ls.getD i 0) < 2 ^ ls.getD i 0 * 2 ^ (15 - ls.getD i 0) := by
  rw [← Nat.pow_add, show ls.getD i 0 + (15 - ls.getD i 0) = 15 by omega]
  have := Nat.two_pow_pos (15 - ls.getD i 0)
  unfold vAt at h1
  omega
 exact Nat.lt_of_mul_lt_mul_right h3
theorem fix_fits : nx fixLit 16 = 2 ^ 15 ∧ nx fixDist 16 = 2 ^ 15 := by
 constructor <;> decide +kernel
end Go.Infl
namespace Go.Infl
def rv (n x : Nat) : Nat := packByte (cbits n x)
theorem rv_lt (n x : Nat) : rv n x < 2 ^ n := packByte_lt (by rw [cbits_length]; exact Nat.le_refl _)
theorem rv_bit (n x i : Nat) : (rv n x).testBit i = (decide (i < n) && x.testBit (n - 1 - i)) := by
 have h : (rv n x).testBit i = (cbits n x)[i]?.getD false := by
  rw [Nat.testBit_eq_decide_div_mod_eq]
  unfold rv
  rw [packByte_get]
  cases (cbits n x)[i]?.getD false <;> simp
 rw [h]
 unfold cbits nbits
 by_cases hi : i < n
 ·
  rw [List.getElem?_reverse (by simpa using hi)]
  simp only [List.length_map, List.length_range, List.getElem?_map]
  rw [List.getElem?_range (by omega)]
  simp [hi]
 rw [List.getElem?_eq_none (by simp; omega)]
 simp [hi]
theorem rv_rv {n x : Nat} (h : x < 2 ^ n) : rv n (rv n x) = x := by
 apply Nat.eq_of_testBit_eq
 intro i
 rw [rv_bit, rv_bit]
 by_cases hi : i < n
 ·
  rw [show n - 1 - (n - 1 - i) = i by omega]
  have h2 : n - 1 - i < n := by omega
  simp [hi, h2]
 have h2 : x.testBit i = false := Nat.testBit_lt_two_pow (Nat.lt_of_lt_of_le h (Nat.pow_le_pow_right (by decide) (show n ≤ i by omega)))
 simp [hi, h2]
def Pre (ls : List Nat) (k b : Nat) : Prop := b % 2 ^ ls.getD k 0 = rv (ls.getD k 0) (codeOf ls k)
theorem pre_iff {ls : List Nat} {k b : Nat} (hk : LOk ls k) (hf : codeOf ls k < 2 ^ ls.getD k 0) : Pre ls k b ↔ rv 15 b / 2 ^ (15 - ls.getD k 0) = codeOf ls k := by
 have h15 := hk.2.2
 unfold Pre
 constructor
 ·
  intro h
  apply Nat.eq_of_testBit_eq
  intro i
  rw [Nat.testBit_div_two_pow, rv_bit]
  by_cases hi : i < ls.getD k 0
  ·
   have e := congrArg (fun z => z.testBit (ls.getD k 0 - 1 - i)) h
   simp only [Nat.testBit_mod_two_pow, rv_bit] at e
   rw [show ls.getD k 0 - 1 - (ls.getD k 0 - 1 - i) = i by omega] at e
   rw [show 15 - 1 - (i + (15 - ls.getD k 0)) = ls.getD k 0 - 1 - i by omega]
   have h1 : ls.getD k 0 - 1 - i < ls.getD k 0 := by omega
   have h2 : i + (15 - ls.getD k 0) < 15 := by omega
   simp only [h1, h2, decide_true, Bool.true_and] at e ⊢
   exact e
  have h2 : ¬ i + (15 - ls.getD k 0) < 15 := by omega
  simp only [h2, decide_false, Bool.false_and]
  exact (Nat.testBit_lt_two_pow (Nat.lt_of_lt_of_le hf (Nat.pow_le_pow_right (by decide) (by omega)))).symm
 intro h
 apply Nat.eq_of_testBit_eq
 intro i
 rw [Nat.testBit_mod_two_pow, rv_bit]
 by_cases hi : i < ls.getD k 0
 ·
  have e := congrArg (fun z => z.testBit (ls.getD k 0 - 1 - i)) h
  simp only [Nat.testBit_div_two_pow, rv_bit] at e
  rw [show 15 - 1 - (ls.getD k 0 - 1 - i + (15 - ls.getD k 0)) = i by omega] at e
  have h2 : ls.getD k 0 - 1 - i + (15 - ls.getD k 0) < 15 := by omega
  simp only [hi, h2, decide_true, Bool.true_and] at e ⊢
  exact e
 simp only [hi, decide_false, Bool.false_and]
theorem pre_range {ls : List Nat} {k b : Nat} (hk : LOk ls k) (hf : codeOf ls k < 2 ^ ls.getD k 0) : Pre ls k b ↔ (vAt ls k ≤ rv 15 b ∧ rv 15 b < vAt ls k + 2 ^ (15 - ls.getD k 0)) := by
 rw [pre_iff hk hf]
 unfold vAt
 have hp := Nat.two_pow_pos (15 - ls.getD k 0)
 rw [Nat.div_eq_iff hp]
 omega
theorem pre_uniq {ls : List Nat} (hf : Fits ls) {i j b : Nat} (hi : LOk ls i) (hj : LOk ls j) (h1 : Pre ls i b) (h2 : Pre ls j b) : i = j := by
 have a1 := (pre_range hi (hf i hi)).1 h1
 have a2 := (pre_range hj (hf j hj)).1 h2
 rcases Nat.lt_trichotomy (ls.getD i 0) (ls.getD j 0) with hl | hl | hl
 ·
  have := vAt_lt hi hj (.inl hl); omega
 ·
  rcases Nat.lt_trichotomy i j with hij | hij | hij
  ·
   have := vAt_lt hi hj (.inr ⟨hl, hij⟩); omega
  ·
   exact hij
  have := vAt_lt hj hi (.inr ⟨hl.symm, hij⟩); omega
 have := vAt_lt hj hi (.inl hl); omega
theorem count_nth : ∀ {ls : List Nat} {n j : Nat}, j < ls.count n → ∃ k, ls[k]? = some n ∧ (ls.take k).count n = j
 | [], n, j, h => by simp at h
 | x :: ls, n, j, h => by
  by_cases e : x = n
  ·
   subst e
   cases j with
   | zero => exact ⟨0, rfl, rfl⟩
   | succ j =>
    rw [List.count_cons_self] at h
    obtain ⟨k, h1, h2⟩ := count_nth (ls := ls) (n := x) (j := j) (by omega)
    exact ⟨k + 1, by simpa using h1, by rw [List.take_succ_cons, List.count_cons_self, h2]⟩
  rw [List.count_cons_of_ne e] at h
  obtain ⟨k, h1, h2⟩ := count_nth h
  exact ⟨k + 1, by simpa using h1, by rw [List.take_succ_cons, List.count_cons_of_ne e, h2]⟩
theorem nx16 (ls : List Nat) : nx ls 16 = sAt ls 15 + ls.count 15 := by
 show 2 * nx ls 15 + (if 15 = 0 then 0 else ls.count 15) = _
 unfold sAt
 simp
theorem sAt_one (ls : List Nat) : sAt ls 1 = 0 := by
 unfold sAt
 show 2 * (2 * 0 + 0) * _ = 0
 simp
theorem len_of {ls : List Nat} {x : Nat} (m : Nat) (h1 : 1 ≤ m) (h2 : m ≤ 15) (h3 : x < sAt ls m + ls.count m * 2 ^ (15 - m)) : ∃ n, 1 ≤ n ∧ n ≤ m ∧ sAt ls n ≤ x ∧ x < sAt ls n + ls.count n * 2 ^ (15 - n) := by
 induction m with
 | zero => omega
 | succ m ih =>
  rcases Nat.lt_or_ge x (sAt ls (m + 1)) with h | h
  ·
   rcases Nat.lt_or_ge 0 m with hm | hm
   ·
    rw [sAt_succ hm (by omega)] at h
    obtain ⟨n, a, b, c⟩ := ih hm (by omega) h
    exact ⟨n, a, by omega, c⟩
   obtain rfl : m = 0 := by omega
   rw [sAt_one] at h; omega
  exact ⟨m + 1, by omega, Nat.le_refl _, h, h3⟩
theorem Full.fits {ls : List Nat} (h : Full ls) : Fits ls := fits_of (Nat.le_of_eq h)
theorem Full.sym {ls : List Nat} (hc : Full ls) (b : Nat) : ∃ k, LOk ls k ∧ Pre ls k b := by
 have hx : rv 15 b < sAt ls 15 + ls.count 15 * 2 ^ (15 - 15) := by
  have := rv_lt 15 b
  unfold Full at hc
  rw [nx16] at hc
  simp only [Nat.sub_self, Nat.pow_zero, Nat.mul_one]
  omega
 obtain ⟨n, h1, h2, h3, h4⟩ := len_of 15 (by decide) (Nat.le_refl _) hx
 have hp := Nat.two_pow_pos (15 - n)
 have hj : (rv 15 b - sAt ls n) / 2 ^ (15 - n) < ls.count n := by
  rw [Nat.div_lt_iff_lt_mul hp]; omega
 obtain ⟨k, h5, h6⟩ := count_nth hj
 have hg : ls.getD k 0 = n := by rw [List.getD_eq_getElem?_getD, h5]; rfl
 have hk : LOk ls k := ⟨(List.getElem?_eq_some_iff.1 h5).1, by rw [hg]; exact h1, by rw [hg]; exact h2⟩
 refine ⟨k, hk, (pre_range hk (hc.fits k hk)).2 ?_⟩
 rw [vAt_eq, hg, h6]
 have := Nat.div_mul_le_self (rv 15 b - sAt ls n) (2 ^ (15 - n))
 have := Nat.lt_div_mul_add (a := rv 15 b - sAt ls n) hp
 omega
theorem pre_mod {ls : List Nat} {k b nb : Nat} (h : ls.getD k 0 ≤ nb) : Pre ls k (b % 2 ^ nb) ↔ Pre ls k b := by
 unfold Pre
 rw [Nat.mod_mod_of_dvd _ (Nat.pow_dvd_pow 2 h)]
theorem rv_mono (n b m : Nat) : rv n (b % 2 ^ m) ≤ rv n b := by
 have : rv n (b % 2 ^ m) &&& rv n b = rv n (b % 2 ^ m) := by
  apply Nat.eq_of_testBit_eq
  intro i
  rw [Nat.testBit_and, rv_bit, rv_bit, Nat.testBit_mod_two_pow]
  cases decide (i < n) <;> cases decide (n - 1 - i < m) <;> simp
 rw [← this]
 exact Nat.and_le_right
theorem pre_found {ls : List Nat} (hf : Fits ls) {k k' b nb : Nat} (hk : LOk ls k) (hk' : LOk ls k') (h : Pre ls k b) (h' : Pre ls k' (b % 2 ^ nb)) : ls.getD k' 0 ≤ ls.getD k 0 ∧ (ls.getD k' 0 ≤ nb → k' = k) := by
 have hin : ls.getD k' 0 ≤ nb → k' = k := fun hl => pre_uniq hf hk' hk ((pre_mod hl).1 h') h
 refine ⟨?_, hin⟩
 rcases Nat.lt_or_ge (ls.getD k 0) (ls.getD k' 0) with hl | hl
 ·
  exfalso
  rcases Nat.lt_or_ge nb (ls.getD k 0) with hn | hn
  ·
   have a1 := (pre_range hk (hf k hk)).1 h
   have a2 := (pre_range hk' (hf k' hk')).1 h'
   have a3 := vAt_lt hk hk' (.inl hl)
   have a4 := rv_mono 15 b nb
   omega
  have := pre_uniq hf hk' hk h' ((pre_mod hn).2 h)
  subst this
  omega
 exact hl
end Go.Infl
namespace Go.Infl
theorem packByte_mod (l : List Bool) (n : Nat) : packByte (l.take n) = packByte l % 2 ^ n := by
 apply Nat.eq_of_testBit_eq
 intro i
 rw [Nat.testBit_mod_two_pow, Nat.testBit_eq_decide_div_mod_eq, Nat.testBit_eq_decide_div_mod_eq, packByte_get, packByte_get, List.getElem?_take]
 by_cases h : i < n <;> simp [h]
theorem Held.mod {B : List Bool} {k i b nb : Nat} (H : Held B k i b nb) : b = packByte (B.drop k) % 2 ^ nb := by rw [H.2, packByte_mod]
theorem pre_all {ls : List Nat} {k : Nat} {rest : List Bool} : Pre ls k (packByte (symB ls k ++ rest)) := by
 unfold Pre
 rw [← packByte_mod, List.take_append_of_le_length (by rw [symB_length]; exact Nat.le_refl _), List.take_of_length_le (by rw [symB_length]; exact Nat.le_refl _)]
 rfl
def look (C : Nat → Nat) (LK : Nat → Nat → Nat) (mask b : Nat) : Nat := if 9 < C (b % 512) % 16 then LK (C (b % 512) / 16) (b / 512 &&& mask) else C (b % 512)
structure Tab (ls : List Nat) (C : Nat → Nat) (LK : Nat → Nat → Nat) (nl e : Nat) : Prop where
 found : ∀ k b, LOk ls k → Pre ls k b → look C LK (2 ^ e - 1) b = 16 * k + ls.getD k 0
 small : ∀ j, j < 512 → C j < 65536
 inn : ∀ j, j < 512 → 9 < C j % 16 → C j / 16 < nl
 links : ∀ v o, LK v o < 65536
 e6 : e ≤ 6
theorem rv_hi {n x : Nat} (hn : 9 < n) : rv n x % 512 = rv 9 (x / 2 ^ (n - 9)) := by
 apply Nat.eq_of_testBit_eq
 intro i
 rw [show (512 : Nat) = 2 ^ 9 from rfl, Nat.testBit_mod_two_pow, rv_bit, rv_bit, Nat.testBit_div_two_pow]
 by_cases h : i < 9
 ·
  rw [show 9 - 1 - i + (n - 9) = n - 1 - i by omega]
  have : i < n := by omega
  simp [h, this]
 simp [h]
theorem rv9_rv9 {j : Nat} (h : j < 512) : rv 9 (rv 9 j) = j := rv_rv h
structure TabI (ls : List Nat) (i e : Nat) (long : Prop) (C : Nat → Nat) (LK : Nat → Nat → Nat) : Prop where
 short : ∀ k, k < i → LOk ls k → ls.getD k 0 ≤ 9 → ∀ j, j < 512 → Pre ls k j → C j = 16 * k + ls.getD k 0
 ind : long → ∀ j, j < 512 → nx ls 10 ≤ rv 9 j → C j = 16 * (rv 9 j - nx ls 10) + 10
 lng : ∀ k, k < i → LOk ls k → 9 < ls.getD k 0 → ∀ o, o < 2 ^ e → o % 2 ^ (ls.getD k 0 - 9) = rv (ls.getD k 0) (codeOf ls k) / 512 → LK (codeOf ls k / 2 ^ (ls.getD k 0 - 9) - nx ls 10) o = 16 * k + ls.getD k 0
 kind : ∀ j, j < 512 → C j < 16384 ∧ (9 < C j % 16 → long ∧ nx ls 10 ≤ rv 9 j ∧ C j / 16 = rv 9 j - nx ls 10)
 links : ∀ v o, LK v o < 16384
theorem long_ge {ls : List Nat} {k : Nat} (hk : LOk ls k) (hl : 9 < ls.getD k 0) : nx ls 10 ≤ codeOf ls k / 2 ^ (ls.getD k 0 - 9) := by
 have h1 := sAt_mono (ls := ls) (n := 10) (m := ls.getD k 0) (by decide) (by omega) hk.2.2
 have h2 : sAt ls (ls.getD k 0) ≤ vAt ls k := by rw [vAt_eq]; omega
 have h3 : sAt ls 10 = nx ls 10 * 2 ^ (ls.getD k 0 - 9) * 2 ^ (15 - ls.getD k 0) := by
  unfold sAt
  rw [Nat.mul_assoc (nx ls 10), ← Nat.pow_add, show ls.getD k 0 - 9 + (15 - ls.getD k 0) = 6 by have := hk.2.2; omega]
  omega
 unfold vAt at h2
 rw [Nat.le_div_iff_mul_le (Nat.two_pow_pos _)]
 refine Nat.le_of_mul_le_mul_right (c := 2 ^ (15 - ls.getD k 0)) ?_ (Nat.two_pow_pos _)
 omega
theorem short_lt {ls : List Nat} {k j : Nat} (hf : codeOf ls k < 2 ^ ls.getD k 0) (hk : LOk ls k) (hl : ls.getD k 0 ≤ 9) (hp : Pre ls k j) : rv 9 j < nx ls 10 := by
 have h1 := vAt_end hk
 rw [← sAt_succ hk.2.1 (by omega)] at h1
 have h2 := sAt_mono (ls := ls) (n := ls.getD k 0 + 1) (m := 10) (by omega) (by omega) (by decide)
 have h3 := ((pre_range hk hf).1 hp).2
 have h4 : rv 9 j * 2 ^ 6 ≤ rv 15 j := by
  have : rv 9 j = rv 15 j / 2 ^ 6 := by
   apply Nat.eq_of_testBit_eq
   intro i
   rw [Nat.testBit_div_two_pow, rv_bit, rv_bit, show 15 - 1 - (i + 6) = 9 - 1 - i by omega]
   by_cases h : i < 9
   ·
    have : i + 6 < 15 := by omega
    simp [h, this]
   have : ¬ i + 6 < 15 := by omega
   simp [h, this]
  rw [this]
  exact Nat.div_mul_le_self _ _
 have h5 : sAt ls 10 = nx ls 10 * 2 ^ 6 := by unfold sAt; omega
 omega
theorem LOk.of {ls : List Nat} {i n : Nat} (h : ls[i]? = some n) (h1 : 1 ≤ n) (h2 : n ≤ 15) : LOk ls i := by
 have hg : ls.getD i 0 = n := by rw [List.getD_eq_getElem?_getD, h]; rfl
 exact ⟨(List.getElem?_eq_some_iff.1 h).1, by rw [hg]; exact h1, by rw [hg]; exact h2⟩
theorem TabI.skip {ls : List Nat} {i e : Nat} {long : Prop} {C : Nat → Nat} {LK : Nat → Nat → Nat} (H : TabI ls i e long C LK) (h : ¬ LOk ls i) : TabI ls (i + 1) e long C LK :=
 { H with
  short := fun k hk hok => by
   rcases Nat.lt_or_ge k i with h' | h'
   ·
    exact H.short k h' hok
   obtain rfl : k = i := by omega
   exact absurd hok h
  lng := fun k hk hok => by
   rcases Nat.lt_or_ge k i with h' | h'
   ·
    exact H.lng k h' hok
   obtain rfl : k = i := by omega
   exact absurd hok h }
theorem TabI.putS {ls : List Nat} {i e : Nat} {long : Prop} {C C' : Nat → Nat} {LK : Nat → Nat → Nat} (hf : Fits ls) (hi1 : i < 1000) (H : TabI ls i e long C LK) (h : LOk ls i) (hl : ls.getD i 0 ≤ 9)
 (hC : ∀ j, j < 512 → C' j = if j % 2 ^ ls.getD i 0 = rv (ls.getD i 0) (codeOf ls i) then 16 * i + ls.getD i 0 else C j) : TabI ls (i + 1) e long C' LK :=
 {
  short := fun k hk hok hs j hj hp => by
   rw [hC j hj]
   by_cases e : j % 2 ^ ls.getD i 0 = rv (ls.getD i 0) (codeOf ls i)
   ·
    rw [if_pos e, pre_uniq hf h hok e hp]
   rw [if_neg e]
   rcases Nat.lt_or_ge k i with h' | h'
   ·
    exact H.short k h' hok hs j hj hp
   obtain rfl : k = i := by omega
   exact absurd hp e
  ind := fun hl' j hj hr => by
   have hn : ¬ j % 2 ^ ls.getD i 0 = rv (ls.getD i 0) (codeOf ls i) := fun e => absurd (short_lt (hf i h) h hl e) (by omega)
   rw [hC j hj, if_neg hn]
   exact H.ind hl' j hj hr
  lng := fun k hk hok hs => by
   rcases Nat.lt_or_ge k i with h' | h'
   ·
    exact H.lng k h' hok hs
   obtain rfl : k = i := by omega
   omega
  kind := fun j hj => by
   rw [hC j hj]
   have hg := h.2.1
   split
   ·
    refine ⟨by omega, fun h9 => ?_⟩
    rw [show (16 * i + ls.getD i 0) % 16 = ls.getD i 0 by omega] at h9
    omega
   exact H.kind j hj
  links := H.links }
theorem TabI.putL {ls : List Nat} {i e : Nat} {long : Prop} {C : Nat → Nat} {LK LK' : Nat → Nat → Nat} (hf : Fits ls) (hi1 : i < 1000) (H : TabI ls i e long C LK) (h : LOk ls i) (hl : 9 < ls.getD i 0)
 (hC : ∀ v o, LK' v o = if v = codeOf ls i / 2 ^ (ls.getD i 0 - 9) - nx ls 10 ∧ o < 2 ^ e ∧ o % 2 ^ (ls.getD i 0 - 9) = rv (ls.getD i 0) (codeOf ls i) / 512 then 16 * i + ls.getD i 0 else LK v o) : TabI ls (i + 1) e long C LK' :=
 {
  short := fun k hk hok hs => by
   rcases Nat.lt_or_ge k i with h' | h'
   ·
    exact H.short k h' hok hs
   obtain rfl : k = i := by omega
   omega
  ind := H.ind
  lng := fun k hk hok hs o ho hp => by
   rw [hC]
   split
   ·
    rename_i hc
    obtain ⟨c1, _, c2⟩ := hc
    have hge1 := long_ge h hl
    have hge2 := long_ge hok hs
    have hpp : codeOf ls i / 2 ^ (ls.getD i 0 - 9) = codeOf ls k / 2 ^ (ls.getD k 0 - 9) := by omega
    have key : ∀ m, LOk ls m → 9 < ls.getD m 0 → codeOf ls m / 2 ^ (ls.getD m 0 - 9) = codeOf ls i / 2 ^ (ls.getD i 0 - 9) → o % 2 ^ (ls.getD m 0 - 9) = rv (ls.getD m 0) (codeOf ls m) / 512 → Pre ls m (rv 9 (codeOf ls i / 2 ^ (ls.getD i 0 - 9)) + 512 * o) := by
     intro m hm hml hmp hmo
     unfold Pre
     have hlt := rv_lt 9 (codeOf ls i / 2 ^ (ls.getD i 0 - 9))
     rw [show ls.getD m 0 = 9 + (ls.getD m 0 - 9) by omega, Nat.pow_add, Nat.mod_mul, ← show ls.getD m 0 = 9 + (ls.getD m 0 - 9) by omega]
     rw [show (rv 9 (codeOf ls i / 2 ^ (ls.getD i 0 - 9)) + 512 * o) % 2 ^ 9 = rv 9 (codeOf ls i / 2 ^ (ls.getD i 0 - 9)) by omega, show (rv 9 (codeOf ls i / 2 ^ (ls.getD i 0 - 9)) + 512 * o) / 2 ^ 9 = o by omega, hmo, ← hmp, ← rv_hi hml]
     omega
    rw [pre_uniq hf h hok (key i h hl rfl c2) (key k hok hs hpp.symm hp)]
   rename_i hc
   rcases Nat.lt_or_ge k i with h' | h'
   ·
    exact H.lng k h' hok hs o ho hp
   obtain rfl : k = i := by omega
   exact absurd ⟨rfl, ho, hp⟩ hc
  kind := H.kind
  links := fun v o => by
   rw [hC]
   have := h.2.2
   split
   ·
    omega
   exact H.links v o }
theorem TabI.tab {ls : List Nat} {e : Nat} {long : Prop} {C : Nat → Nat} {LK : Nat → Nat → Nat} (hf : Fits ls) (H : TabI ls ls.length e long C LK) (he : e ≤ 6) (hl : ∀ k, LOk ls k → 9 < ls.getD k 0 → long ∧ ls.getD k 0 - 9 ≤ e) {nl : Nat} (hnl : long → nl = 512 - nx ls 10) : Tab ls C LK nl e :=
 {
  found := fun k b hk hp => by
   unfold look
   rcases Nat.lt_or_ge 9 (ls.getD k 0) with h9 | h9
   ·
    obtain ⟨h1, h2⟩ := hl k hk h9
    have hb : b % 512 = rv 9 (codeOf ls k / 2 ^ (ls.getD k 0 - 9)) := by
     rw [← rv_hi h9, ← hp, show (512 : Nat) = 2 ^ 9 from rfl, Nat.mod_mod_of_dvd _ (Nat.pow_dvd_pow 2 (by omega))]
    have hx : codeOf ls k / 2 ^ (ls.getD k 0 - 9) < 2 ^ 9 := by
     rw [Nat.div_lt_iff_lt_mul (Nat.two_pow_pos _), ← Nat.pow_add, show 9 + (ls.getD k 0 - 9) = ls.getD k 0 by omega]
     exact hf k hk
    have hrr : rv 9 (b % 512) = codeOf ls k / 2 ^ (ls.getD k 0 - 9) := by rw [hb, rv_rv hx]
    have hge := long_ge hk h9
    have hC := H.ind h1 (b % 512) (Nat.mod_lt _ (by decide)) (by rw [hrr]; exact hge)
    rw [hrr] at hC
    rw [hC, if_pos (by omega), show (16 * (codeOf ls k / 2 ^ (ls.getD k 0 - 9) - nx ls 10) + 10) / 16 = codeOf ls k / 2 ^ (ls.getD k 0 - 9) - nx ls 10 by omega, Nat.and_two_pow_sub_one_eq_mod]
    refine H.lng k hk.1 hk h9 _ (Nat.mod_lt _ (Nat.two_pow_pos _)) ?_
    rw [Nat.mod_mod_of_dvd _ (Nat.pow_dvd_pow 2 h2), ← hp]
    rw [show 2 ^ ls.getD k 0 = 512 * 2 ^ (ls.getD k 0 - 9) by rw [show (512 : Nat) = 2 ^ 9 from rfl, ← Nat.pow_add]; congr 1; omega, Nat.mod_mul_right_div_self]
   have hj : b % 512 < 512 := Nat.mod_lt _ (by decide)
   have hpj : Pre ls k (b % 512) := (pre_mod (nb := 9) h9).2 hp
   have hC := H.short k hk.1 hk h9 _ hj hpj
   have := hk.2.1
   rw [hC, if_neg (by omega)]
  small := fun j hj => by have := (H.kind j hj).1; omega
  inn := fun j hj h9 => by
   obtain ⟨h0, h1, h2⟩ := (H.kind j hj).2 h9
   have := rv_lt 9 j
   have := hnl h0
   omega
  links := fun v o => by have := H.links v o; omega
  e6 := he }
end Go.Infl
namespace Go.Infl
def HTail (ls ds : List Nat) (fin : Bool) (k : Nat) (bits : List Bool) (h : List Nat) (hF : List Nat × Bool) : Prop :=
 ∃ its b1 tl, bits = b1 ++ tl ∧ ItOk h.length its ∧ ItBits ls ds its b1 ∧
  ((∃ rest, tl = symB ls 256 ++ rest ∧ After fin (k + b1.length + ls.getD 256 0) rest (gives h its) hF) ∨ (hF = (gives h its, false) ∧ BadSym ls ds (gives h its).length tl ∧ ls.getD 256 0 ≤ tl.length))
inductive HStep (ls ds : List Nat) (fin : Bool) (k : Nat) (h : List Nat) (hF : List Nat × Bool) : List Bool → Prop
 | lit {b : Nat} {rest : List Bool} : LOk ls b → b < 256 → HTail ls ds fin (k + ls.getD b 0) rest (h ++ [b]) hF → HStep ls ds fin k h hF (symB ls b ++ rest)
 | mat {n d c v c' v' : Nat} {rest : List Bool} : LenAt n c v → DistAt d c' v' → LOk ls c → LOk ds c' → 3 ≤ n → n ≤ 258 → 1 ≤ d → d ≤ h.length → d ≤ 32768 → HTail ls ds fin (k + ls.getD c 0 + lenExtra c + ds.getD c' 0 + distExtra c') rest (copyM h d n) hF →
  HStep ls ds fin k h hF (symB ls c ++ (nbits (lenExtra c) v ++ (symB ds c' ++ (nbits (distExtra c') v' ++ rest))))
 | eob {rest : List Bool} : After fin (k + ls.getD 256 0) rest h hF → HStep ls ds fin k h hF (symB ls 256 ++ rest)
 | bad {bits : List Bool} : hF = (h, false) → BadSym ls ds h.length bits → HStep ls ds fin k h hF bits
theorem HTail.step {ls ds : List Nat} {fin : Bool} {k : Nat} {bits : List Bool} {h : List Nat} {hF : List Nat × Bool} (H : HTail ls ds fin k bits h hF) : HStep ls ds fin k h hF bits ∧ ls.getD 256 0 ≤ bits.length := by
 obtain ⟨its, b1, tl, rfl, h1, h2, h3⟩ := H
 have hlen : ls.getD 256 0 ≤ (b1 ++ tl).length := by
  rw [List.length_append]
  rcases h3 with ⟨rest, rfl, _⟩ | ⟨_, _, h⟩
  ·
   rw [List.length_append, symB_length]; omega
  omega
 refine ⟨?_, hlen⟩
 cases h2 with
 | nil =>
  rcases h3 with ⟨rest, rfl, h3⟩ | ⟨h3, h4, _⟩
  ·
   exact .eob (by simpa [gives] using h3)
  exact .bad h3 h4
 | @cons x l b bs hx hl =>
  rw [List.append_assoc]
  cases hx with
  | @lit b hb =>
   refine .lit hb h1.1 ⟨l, bs, tl, rfl, by rw [List.length_append]; exact h1.2, hl, ?_⟩
   simp only [List.length_append, symB_length, ← Nat.add_assoc] at h3
   exact h3
  | @mat n d c v c' v' a1 a2 a3 a4 =>
   simp only [List.append_assoc]
   obtain ⟨⟨o1, o2, o3, o4, o5⟩, o6⟩ := h1
   refine .mat a1 a2 a3 a4 o1 o2 o3 o4 o5 ⟨l, bs, tl, rfl, by rw [copyM_length]; exact o6, hl, ?_⟩
   simp only [List.length_append, symB_length, nbits_length, ← Nat.add_assoc] at h3
   exact h3
def xsM (h : List Nat) (d n : Nat) : List Nat := (copyM h d n).drop h.length
theorem copyM_split (h : List Nat) (d : Nat) : ∀ n, copyM h d n = h ++ xsM h d n
 | 0 => by simp [copyM, xsM]
 | n + 1 => by
  have ih := copyM_split h d n
  unfold xsM at ih ⊢
  rw [copyM, List.drop_append_of_le_length (by rw [copyM_length]; omega), ← List.append_assoc, ← ih]
theorem xsM_length (h : List Nat) (d n : Nat) : (xsM h d n).length = n := by unfold xsM; rw [List.length_drop, copyM_length]; omega
theorem copyM_pre (h : List Nat) (d : Nat) {m : Nat} : ∀ {n}, m ≤ n → ∃ r, copyM h d n = copyM h d m ++ r
 | n, hm => by
  induction n with
  | zero =>
   obtain rfl : m = 0 := by omega
   exact ⟨[], by simp⟩
  | succ n ih =>
   rcases Nat.lt_or_ge n m with h' | h'
   ·
    obtain rfl : m = n + 1 := by omega
    exact ⟨[], by simp⟩
   obtain ⟨r, e⟩ := ih h'
   exact ⟨r ++ [_], by rw [copyM, e, List.append_assoc]⟩
theorem copyM_getD {h : List Nat} {d m n p : Nat} (hm : m ≤ n) (hp : p < h.length + m) : (copyM h d n).getD p 0 = (copyM h d m).getD p 0 := by
 obtain ⟨r, e⟩ := copyM_pre h d hm
 rw [e, List.getD_eq_getElem?_getD, List.getElem?_append_left (by rw [copyM_length]; exact hp), ← List.getD_eq_getElem?_getD]
theorem copyM_back {h : List Nat} {d n p : Nat} (hd : 1 ≤ d) (hdl : d ≤ h.length) (h1 : h.length ≤ p) (h2 : p < h.length + n) : (copyM h d n).getD p 0 = (copyM h d n).getD (p - d) 0 := by
 obtain ⟨q, rfl⟩ := Nat.exists_eq_add_of_le h1
 have e1 := copyM_getD (h := h) (d := d) (m := q + 1) (n := n) (p := h.length + q) (by omega) (by omega)
 rw [e1]
 have e3 : (copyM h d (q + 1)).getD (h.length + q) 0 = (copyM h d q).getD (h.length + q - d) 0 := by
  rw [copyM, List.getD_eq_getElem?_getD, List.getElem?_append_right (by rw [copyM_length]; omega), copyM_length, Nat.sub_self]
  rfl
 rw [e3]
 exact (copyM_getD (by omega) (by omega)).symm
theorem copyM_far {h : List Nat} {d n : Nat} (hd : 1 ≤ d) (hdl : d ≤ h.length) : ∀ {c p : Nat}, h.length + d * c ≤ p + d → p < h.length + n → (copyM h d n).getD p 0 = (copyM h d n).getD (p - d * c) 0
 | 0, p, _, _ => by simp
 | c + 1, p, h1, h2 => by
  rw [Nat.mul_succ] at h1 ⊢
  rw [copyM_back hd hdl (by omega) h2, copyM_far (c := c) hd hdl (by omega) (by omega), Nat.sub_sub, Nat.add_comm d]
theorem xsM_getD {h : List Nat} {d n j : Nat} : (xsM h d n).getD j 0 = (copyM h d n).getD (h.length + j) 0 := by
 unfold xsM
 rw [List.getD_eq_getElem?_getD, List.getElem?_drop, ← List.getD_eq_getElem?_getD]
theorem xsM_take {h : List Nat} {d n m : Nat} (hm : m ≤ n) : (xsM h d n).take m = xsM h d m := by
 apply List.ext_getElem?
 intro j
 rw [List.getElem?_take]
 split
 ·
  rename_i hj
  have e : (xsM h d n).getD j 0 = (xsM h d m).getD j 0 := by rw [xsM_getD, xsM_getD]; exact copyM_getD hm (by omega)
  simp only [List.getD_eq_getElem?_getD] at e
  rw [List.getElem?_eq_getElem (by rw [xsM_length]; omega)] at e ⊢
  rw [List.getElem?_eq_getElem (by rw [xsM_length]; omega)] at e ⊢
  simpa using e
 rw [List.getElem?_eq_none (by rw [xsM_length]; omega)]
theorem updh_app {hist : Nat → Nat} {wr : Nat} {a b : List Nat} : updh (updh hist wr a) (wr + a.length) b = updh hist wr (a ++ b) := by
 funext j
 unfold updh
 rw [List.length_append]
 by_cases h1 : wr + a.length ≤ j ∧ j < wr + a.length + b.length
 ·
  rw [if_pos h1, if_pos (by omega), List.getD_eq_getElem?_getD, List.getD_eq_getElem?_getD, List.getElem?_append_right (by omega), show j - wr - a.length = j - (wr + a.length) by omega]
 rw [if_neg h1]
 by_cases h2 : wr ≤ j ∧ j < wr + a.length
 ·
  rw [if_pos h2, if_pos (by omega), List.getD_eq_getElem?_getD, List.getD_eq_getElem?_getD, List.getElem?_append_left (by omega)]
 rw [if_neg h2, if_neg (by omega)]
theorem updh_nil {hist : Nat → Nat} {wr : Nat} : updh hist wr [] = hist := by
 funext j; unfold updh; rw [if_neg (by simp)]
theorem Win.wr_le {hist : Nat → Nat} {wr : Nat} {full : Bool} {h : List Nat} (H : Win hist wr full h) : wr ≤ h.length := by
 obtain ⟨h1, h2, h3, _⟩ := H
 cases full with
 | false => exact Nat.le_of_eq (h2 rfl).symm
 | true => exact Nat.le_trans h1 (h3 rfl)
theorem Win.at_ {hist : Nat → Nat} {wr q : Nat} {full : Bool} {h : List Nat} (H : Win hist wr full h) (hq : q < wr) : hist q = h.getD (h.length - wr + q) 0 := by
 have hw := H.wr_le
 obtain ⟨h1, h2, h3, h4⟩ := H
 have := h4 (wr - 1 - q) (by omega) (by omega)
 rw [show (wr + 32767 - (wr - 1 - q)) % 32768 = q by omega, show h.length - 1 - (wr - 1 - q) = h.length - wr + q by omega] at this
 exact this
theorem copy_src {hist : Nat → Nat} {wr src d n j t c : Nat} {full : Bool} {h : List Nat} (H : Win hist wr full h) (hn : wr + n ≤ 32768) (hd : 1 ≤ d) (hdl : d ≤ h.length) (hj : j + t < n) (hs : wr ≤ src + d) (hc : src + d * c = wr + j) (ht : src + t < wr + j) :
 updh hist wr (xsM h d j) (src + t) = (xsM h d n).getD (j + t) 0 := by
 have hw := H.write (xs := xsM h d j) (by rw [xsM_length]; omega)
 rw [xsM_length, ← copyM_split] at hw
 have hwr := H.wr_le
 have hi : h.length + j - (wr + j) + (src + t) = h.length + (j + t) - d * c := by omega
 rw [hw.at_ ht, copyM_length, xsM_getD, copyM_far (n := n) (p := h.length + (j + t)) (c := c) hd hdl (by omega) (by omega), hi]
 exact (copyM_getD (by omega) (by omega)).symm
theorem copy_wrap {hist : Nat → Nat} {wr d n t : Nat} {full : Bool} {h : List Nat} (H : Win hist wr full h) (hd : wr < d) (hd2 : d ≤ 32768) (hh : d ≤ h.length) (ht : t < n) (htd : t < d - wr) :
 hist (wr + 32768 - d + t) = (xsM h d n).getD t 0 := by
 obtain ⟨h1, h2, h3, h4⟩ := H
 have := h4 (d - 1 - t) (by omega) (by omega)
 rw [show (wr + 32767 - (d - 1 - t)) % 32768 = wr + 32768 - d + t by omega] at this
 rw [this, xsM_getD, copyM_back (by omega) hh (by omega) (by omega), show h.length + t - d = h.length - 1 - (d - 1 - t) by omega]
 exact (copyM_getD (m := 0) (Nat.zero_le _) (by omega)).symm
end Go.Infl
namespace Go.Eng
open Go Go.Proofs Go.Infl
def hc (mn : Nat) (C : Nat → Nat) (lv : Value) (mk : Nat) (j : Nat) : Value := if j = 0 then i64 mn else if j < 513 then u32 (C (j - 1)) else if j = 513 then lv else u32 mk
def hz (j : Nat) : Value := hc 0 (fun _ => 0) (.slice none 0 0) 0 j
def tabf (F : Nat → Value) (off : Nat) (T : Nat → Value) (j : Nat) : Value := if off ≤ j ∧ j < off + 515 then T (j - off) else F j
def updN (C : Nat → Nat) (i x : Nat) (j : Nat) : Nat := if j = i then x else C j
theorem upd_tabf {F T : Nat → Value} {off i : Nat} {v : Value} (h : i < 515) : upd (tabf F off T) (off + i) v = tabf F off (upd T i v) := by
 funext j
 show (if j = off + i then v else tabf F off T j) = if off ≤ j ∧ j < off + 515 then (if j - off = i then v else T (j - off)) else F j
 unfold tabf
 by_cases e : j = off + i
 ·
  subst e; rw [if_pos rfl, if_pos (by omega), if_pos (by omega)]
 rw [if_neg e]
 by_cases h2 : off ≤ j ∧ j < off + 515
 ·
  rw [if_pos h2, if_pos h2, if_neg (by omega)]
 rw [if_neg h2, if_neg h2]
theorem tabf_get {F T : Nat → Value} {off i : Nat} (h : i < 515) : tabf F off T (off + i) = T i := by
 unfold tabf; rw [if_pos (by omega), Nat.add_sub_cancel_left]
theorem hc_getC {mn mk i : Nat} {C : Nat → Nat} {lv : Value} (h : i < 512) : hc mn C lv mk (1 + i) = u32 (C i) := by
 unfold hc; rw [if_neg (by omega), if_pos (by omega), Nat.add_sub_cancel_left]
theorem hc_set0 {mn mk x : Nat} {C : Nat → Nat} {lv : Value} : upd (hc mn C lv mk) 0 (i64 x) = hc x C lv mk := by
 funext j; unfold upd hc; split <;> rfl
theorem hc_setC {mn mk i x : Nat} {C : Nat → Nat} {lv : Value} (h : i < 512) : upd (hc mn C lv mk) (1 + i) (u32 x) = hc mn (updN C i x) lv mk := by
 funext j
 unfold upd hc updN
 by_cases e : j = 1 + i
 ·
  subst e; rw [if_pos rfl, if_neg (by omega), if_pos (by omega), if_pos (by omega)]
 rw [if_neg e]
 by_cases h0 : j = 0
 ·
  rw [if_pos h0, if_pos h0]
 rw [if_neg h0, if_neg h0]
 by_cases h1 : j < 513
 ·
  rw [if_pos h1, if_pos h1, if_neg (by omega)]
 rw [if_neg h1, if_neg h1]
theorem hc_setL {mn mk : Nat} {C : Nat → Nat} {lv v : Value} : upd (hc mn C lv mk) 513 v = hc mn C v mk := by
 funext j
 unfold upd hc
 by_cases e : j = 513
 ·
  subst e; rfl
 rw [if_neg e, if_neg e]; simp only [if_neg e]
theorem hc_setM {mn mk x : Nat} {C : Nat → Nat} {lv : Value} (F : Nat → Value) (off : Nat) : tabf F off (upd (hc mn C lv mk) 514 (u32 x)) = tabf F off (hc mn C lv x) := by
 funext j
 unfold tabf
 by_cases h : off ≤ j ∧ j < off + 515
 ·
  rw [if_pos h, if_pos h]
  unfold upd hc
  by_cases e : j - off = 514
  ·
   rw [if_pos e, if_neg (by omega), if_neg (by omega), if_neg (by omega)]
  rw [if_neg e]
  by_cases h0 : j - off = 0
  ·
   rw [if_pos h0, if_pos h0]
  rw [if_neg h0, if_neg h0]
  by_cases h1 : j - off < 513
  ·
   rw [if_pos h1, if_pos h1]
  rw [if_neg h1, if_neg h1, if_pos (by omega), if_pos (by omega)]
 rw [if_neg h, if_neg h]
def TOk (T : Nat → Value) : Prop := (∃ mn : Nat, mn ≠ 0 ∧ T 0 = i64 mn) ∨ ∀ j, j < 515 → T j = hz j
def HOk (H : Nat → Value) : Prop := TOk H ∧ TOk fun j => H (515 + j)
def EV (hF : List Nat × Bool) (eof v : Value) : Prop := hF.2 = true ∧ v = eof ∨ hF.2 = false ∧ ∃ z : Int, v = .iface 121 (.int .i64 z)
structure TD where
 mn : Nat
 C : Nat → Nat
 LK : Nat → Nat → Nat
 nl : Nat
 e : Nat
 lv : Value
structure TDok (ls : List Nat) (t : TD) (T : Nat → Value) : Prop where
 cells : ∀ j, j < 515 → T j = hc t.mn t.C t.lv (2 ^ t.e - 1) j
 tab : Tab ls t.C t.LK t.nl t.e
 full : Full ls
 m15 : t.mn ≤ 15
def LM (l : List Nat) (ne : Nat) (bs : Nat → Nat) (LK : Nat → Nat → Nat) : HProp := sep (l.map fun v => blk (bs v) ne (fun o => u32 (LK v o)))
def Lnks (t : TD) : HProp := fun m => t.nl = 0 ∨ ∃ lb bs, t.lv = .slice (some ⟨lb, 0, none⟩) t.nl t.nl ∧ sep [blk lb t.nl (fun v => .slice (some ⟨bs v, 0, none⟩) (2 ^ t.e) (2 ^ t.e)), LM (List.range t.nl) (2 ^ t.e) bs t.LK] m
def TbsF (hl hd : Value) (ls ds : List Nat) : HProp := hex fun x : Nat × (Nat → Value) × TD => sep [hpure (hl = .pointer (some ⟨x.1, 0, none⟩) ∧ hd = .pointer none ∧ ls = fixLit ∧ ds = fixDist ∧ TDok ls x.2.2 x.2.1 ∧ x.2.2.mn = ls.getD 256 0), blk x.1 515 x.2.1, Lnks x.2.2]
def TbsD (f : Nat) (hl hd : Value) (H : Nat → Value) (ls ds : List Nat) : HProp := hex fun x : TD × TD => sep [hpure (hl = pt f 5 ∧ hd = pt f 520 ∧ TDok ls x.1 H ∧ x.1.mn = ls.getD 256 0 ∧ ((TDok ds x.2 (fun j => H (515 + j)) ∧ ∀ k, LOk ds k → x.2.mn ≤ ds.getD k 0) ∨ ∀ y ∈ ds, y = 0)), Lnks x.1, Lnks x.2]
def Tbs (f : Nat) (hl hd : Value) (H : Nat → Value) (ls ds : List Nat) : HProp := fun m => LOk ls 256 ∧ (TbsF hl hd ls ds m ∨ TbsD f hl hd H ls ds m)
end Go.Eng
namespace Go.Eng
open Go Go.Proofs Go.Infl
def SSd (s : DS) (h : List Nat) : Prop := s.ss = 0 ∨ s.ss = 1 ∧ 1 ≤ s.cd ∧ s.cd ≤ h.length ∧ s.cd ≤ 32768
theorem SSd.mono {s s' : DS} {h h' : List Nat} (H : SSd s h) (hl : h.length ≤ h'.length) (h1 : s'.ss = s.ss := by rfl) (h2 : s'.cd = s.cd := by rfl) : SSd s' h' := by
 unfold SSd at *; rw [h1, h2]; omega
structure Base (bb cb r hb : Nat) (B : List Bool) (s : DS) (i : Nat) (hist : Nat → Nat) (h : List Nat) : Prop where
 r_ : s.r = rif r
 hi : s.hist = Hw hb
 win : Win hist s.wr s.full h
 rw_ : s.rd ≤ s.wr
 wl : s.wr < 32768
 ro : s.roff = i
 il : i ≤ (pack B).length
 ex : s.bits = pt bb 0 ∧ s.cbits = pt cb 0 ∧ HOk s.H
 sd : SSd s h
def TR (hb : Nat) (hist : Nat → Nat) (v : Value) (c : List Nat) : Prop := (v = .slice none 0 0 ∧ c = []) ∨ ∃ a cp, v = .slice (some ⟨hb, a, none⟩) c.length cp ∧ c.length ≤ cp ∧ a + c.length ≤ 32768 ∧ ∀ j x, c[j]? = some x → hist (a + j) = x
theorem TR.nil {hb : Nat} {hist hist' : Nat → Nat} {v : Value} (h : TR hb hist v []) : TR hb hist' v [] := by
 rcases h with h | ⟨a, cp, h1, h2, h3, _⟩
 ·
  exact .inl h
 exact .inr ⟨a, cp, h1, h2, h3, fun j x hj => by cases hj⟩
inductive Pl (f : Nat) (B : List Bool) (hF : List Nat × Bool) (s : DS) (i : Nat) (h : List Nat) : Nat → PH → Prop
 | blk {k mu : Nat} {st tail : List Bool} {m : PH} : s.step = .func (.func 68) #[] #[] → s.nb ≤ 7 → Held B k i s.b s.nb → B.drop k = st ++ tail → Strm k st h hF → mu = 1000 * (B.length - k) → (s.ss = 1 → s.cl = 0) → Pl f B hF s i h mu m
 | copy {xs : List Nat} {rest : List Bool} {mu : Nat} {m : PH} : s.step = .func (.func 110) #[] #[] → s.nb = 0 → s.b = 0 → s.cl = xs.length → (∀ x ∈ xs, x < 256) → B.drop (8 * i) = xs.flatMap (nbits 8) ++ rest → After s.final (8 * i + 8 * xs.length) rest (h ++ xs) hF →
  mu = 1000 * (B.length - 8 * i) + 1 → Pl f B hF s i h mu m
 | huff {k mu : Nat} {ls ds : List Nat} {m : PH} : s.step = .func (.func 89) #[] #[] → (s.ss = 0 ∧ mu = 1000 * (B.length - k) + 1 ∨ s.ss = 1 ∧ s.cl ≤ 258 ∧ 1 ≤ s.cd ∧ s.cd ≤ h.length ∧ s.cd ≤ 32768 ∧ mu = 1000 * (B.length - k) + 2 + s.cl) → Held B k i s.b s.nb → s.nb ≤ ls.getD 256 0 + 7 →
  HTail ls ds s.final k (B.drop k) (if s.ss = 0 then h else copyM h s.cd s.cl) hF → Tbs f s.hl s.hd s.H ls ds m → Pl f B hF s i h mu m
def RS (z : Bool) (G : World) (R : List HProp) (bb cb f r hb : Nat) (B : List Bool) (hF : List Nat × Bool) (eof : Value) (del : List Nat) (ok : Nat → Prop) (w : World) : Prop :=
 ∃ s i hist h c un, Base bb cb r hb B s i hist h ∧ h = del ++ (c ++ un) ∧ un.length = s.wr - s.rd ∧ TR hb hist s.toRead c ∧
  ((s.err = .nilIface ∧ ∃ mu, ok mu ∧ Sat G w (blk f 1054 (D s) :: Br r B i :: blk hb 32768 (fun j => u8 (hist j)) :: Pl f B hF s i h mu :: R)) ∨
   (EV hF eof s.err ∧ h = hF.1 ∧ (un = [] ∨ z = true ∧ c = []) ∧ Sat G w (blk f 1054 (D s) :: Br r B i :: blk hb 32768 (fun j => u8 (hist j)) :: R)))
theorem plEmp {G w : World} {X Y Z A : HProp} {R : List HProp} (hA : ∀ m, A m) (h : Sat G w (X :: Y :: Z :: R)) : Sat G w (X :: Y :: Z :: A :: R) :=
 (h.emp (hA _)).perm (List.perm_middle (l₁ := [X, Y, Z])).symm
section
variable {G w : World} {R : List HProp} {bb cb f r hb i : Nat} {B : List Bool} {hF : List Nat × Bool} {del un xs : List Nat} {eof : Value} {s : DS} {hist : Nat → Nat} {rest : List Bool} {m mu0 : Nat}
theorem copy_full (H : Base bb cb r hb B s i hist (del ++ un)) (hu : un.length = s.wr - s.rd) (herr : s.err = .nilIface) (hcl : s.cl = xs.length) (hnb : s.nb = 0) (hb0 : s.b = 0) (hx : ∀ x ∈ xs, x < 256)
 (hd : B.drop (8 * i) = xs.flatMap (nbits 8) ++ rest) (ha : After s.final (8 * i + 8 * xs.length) rest (del ++ un ++ xs) hF) (hm : m ≤ xs.length) (hf : s.wr + m = 32768) (hmu : 1000 * (B.length - 8 * i) + 1 ≤ mu0)
 (hS : Sat G w (blk f 1054 (D { s with roff := s.roff + m, cl := s.cl - m, wr := (s.wr + m) % 32768, rd := (s.wr + m) % 32768, full := s.full || decide (s.wr + m = 32768), toRead := .slice (some ⟨hb, s.rd, none⟩) (s.wr + m - s.rd) (32768 - s.rd), step := .func (.func 110) #[] #[] }) ::
  Br r B (i + m) :: blk hb 32768 (fun j => u8 (updh hist s.wr (xs.take m) j)) :: R)) : RS true G R bb cb f r hb B hF eof del (· < mu0) w := by
 have hl := congrArg List.length hd
 rw [List.length_drop, List.length_append, bits8_length] at hl
 have htl : (xs.take m).length = m := by rw [List.length_take]; omega
 have hw := H.win.write (xs := xs.take m) (by rw [htl]; omega)
 rw [htl, List.append_assoc] at hw
 have h1 := H.rw_; have h2 := H.wl; have h3 := H.ro; have h4 := H.il
 have hp := pack_length B
 refine ⟨{ s with roff := s.roff + m, cl := s.cl - m, wr := (s.wr + m) % 32768, rd := (s.wr + m) % 32768, full := s.full || decide (s.wr + m = 32768), toRead := .slice (some ⟨hb, s.rd, none⟩) (s.wr + m - s.rd) (32768 - s.rd), step := .func (.func 110) #[] #[] }, i + m, updh hist s.wr (xs.take m), del ++ (un ++ xs.take m), un ++ xs.take m, [], ⟨H.r_, H.hi, hw.flush, Nat.le_refl _, Nat.mod_lt _ (by decide), by show s.roff + m = i + m; rw [h3], by omega, H.ex, H.sd.mono (by simp only [List.length_append]; omega)⟩, by rw [List.append_nil], ?_, ?_, .inl ⟨herr, 1000 * (B.length - 8 * (i + m)) + 1, by show _ < _; omega, plEmp ?_ hS⟩⟩
 ·
  exact (Nat.sub_self _).symm
 ·
  refine .inr ⟨s.rd, 32768 - s.rd, ?_, ?_, ?_, ?_⟩
  ·
   show Value.slice _ _ _ = _
   congr 1
   rw [List.length_append, htl, hu]; omega
  ·
   rw [List.length_append, htl, hu]; omega
  ·
   rw [List.length_append, htl, hu]; omega
  exact hw.tail (by omega) (by rw [List.length_append, htl, hu]; omega)
 intro m'
 refine .copy (xs := xs.drop m) (rest := rest) rfl hnb hb0 ?_ (fun x hx' => hx x (List.mem_of_mem_drop hx')) (bits8_drop hd hm) ?_ rfl
 ·
  show s.cl - m = _; rw [List.length_drop, hcl]
 rw [List.length_drop, show 8 * (i + m) + 8 * (xs.length - m) = 8 * i + 8 * xs.length by omega, ← List.append_assoc del, List.append_assoc (del ++ un), List.take_append_drop]
 exact ha
theorem copy_fin {ea : Addr} (H : Base bb cb r hb B s i hist (del ++ un)) (hu : un.length = s.wr - s.rd) (htr : TR hb hist s.toRead []) (herr : s.err = .nilIface) (hcl : s.cl = xs.length) (hnb : s.nb = 0) (hb0 : s.b = 0)
 (hd : B.drop (8 * i) = xs.flatMap (nbits 8) ++ rest) (ha : After s.final (8 * i + 8 * xs.length) rest (del ++ un ++ xs) hF) (hm : m = xs.length) (hf : s.wr + m < 32768) (hmu : 1000 * (B.length - 8 * i) + 1 ≤ mu0)
 (hS : Sat G w (blk f 1054 (D (finS { s with roff := s.roff + m, cl := s.cl - m, wr := s.wr + m } hb (.iface 187 (.pointer (some ea))))) ::
  Br r B (i + m) :: blk hb 32768 (fun j => u8 (updh hist s.wr (xs.take m) j)) :: R)) : RS true G R bb cb f r hb B hF (.iface 187 (.pointer (some ea))) del (· < mu0) w := by
 subst hm
 have hl := congrArg List.length hd
 rw [List.length_drop, List.length_append, bits8_length] at hl
 rw [List.take_length] at hS
 have hw := H.win.write (xs := xs) (by omega)
 rw [List.append_assoc] at hw
 have h1 := H.rw_; have h2 := H.wl; have h3 := H.ro; have h4 := H.il
 have hp := pack_length B
 have hil : i + xs.length ≤ (pack B).length := by omega
 cases hfin : s.final with
 | false =>
  rw [show finS _ hb _ = _ from if_neg (by simp [hfin])] at hS
  obtain ⟨st, tail, e1, e2⟩ := ha.2 hfin
  refine ⟨{ s with roff := s.roff + xs.length, cl := s.cl - xs.length, wr := s.wr + xs.length, step := .func (.func 68) #[] #[] }, i + xs.length, updh hist s.wr xs, del ++ (un ++ xs), [], un ++ xs, ⟨H.r_, H.hi, hw, ?_, hf, by show s.roff + _ = i + _; rw [h3], hil, H.ex, H.sd.mono (by simp only [List.length_append]; omega)⟩, rfl, ?_, htr.nil, .inl ⟨herr, 1000 * (B.length - 8 * (i + xs.length)), by show _ < _; omega, plEmp ?_ hS⟩⟩
  ·
   show s.rd ≤ s.wr + _; omega
  ·
   show _ = s.wr + xs.length - s.rd; rw [List.length_append, hu]; omega
  intro m'
  refine .blk (k := 8 * (i + xs.length)) (st := st) (tail := tail) rfl ?_ ?_ ?_ ?_ rfl (fun _ => by show s.cl - xs.length = 0; omega)
  ·
   show s.nb ≤ 7; omega
  ·
   show Held _ _ _ s.b s.nb; rw [hnb, hb0]; exact Held.zero
  ·
   rw [bits8_drop hd (Nat.le_refl _), List.drop_length]; exact e1
  rw [← List.append_assoc, Nat.mul_add]; exact e2
 | true =>
  rw [show finS _ hb _ = _ from if_pos (by simp [hfin])] at hS
  obtain ⟨e, eo⟩ := ha.1 hfin
  rw [List.append_assoc] at e
  by_cases hlt : s.rd < s.wr + xs.length
  ·
   rw [if_pos (show _ < _ from hlt)] at hS
   have hmod : (s.wr + xs.length) % 32768 = s.wr + xs.length := Nat.mod_eq_of_lt hf
   refine ⟨{ s with roff := s.roff + xs.length, cl := s.cl - xs.length, toRead := .slice (some ⟨hb, s.rd, none⟩) (s.wr + xs.length - s.rd) (32768 - s.rd), wr := (s.wr + xs.length) % 32768, rd := (s.wr + xs.length) % 32768, full := s.full || decide (s.wr + xs.length = 32768), err := .iface 187 (.pointer (some ea)), step := .func (.func 68) #[] #[] }, i + xs.length, updh hist s.wr xs, del ++ (un ++ xs), un ++ xs, [], ⟨H.r_, H.hi, hw.flush, Nat.le_refl _, Nat.mod_lt _ (by decide), by show s.roff + _ = i + _; rw [h3], hil, H.ex, H.sd.mono (by simp only [List.length_append]; omega)⟩, by rw [List.append_nil], ?_, ?_, .inr ⟨.inl ⟨eo, rfl⟩, e, .inl rfl, hS⟩⟩
   ·
    exact (Nat.sub_self _).symm
   refine .inr ⟨s.rd, 32768 - s.rd, ?_, ?_, ?_, ?_⟩
   ·
    show Value.slice _ _ _ = _
    congr 1
    rw [List.length_append, hu]; show s.wr + xs.length - s.rd = _; omega
   ·
    rw [List.length_append, hu]; omega
   ·
    rw [List.length_append, hu]; omega
   exact hw.tail (by omega) (by rw [List.length_append, hu]; omega)
  rw [if_neg (show ¬ _ < _ from hlt)] at hS
  have e0 : un ++ xs = [] := List.length_eq_zero_iff.1 (by rw [List.length_append, hu]; omega)
  refine ⟨{ s with roff := s.roff + xs.length, cl := s.cl - xs.length, wr := s.wr + xs.length, err := .iface 187 (.pointer (some ea)), step := .func (.func 68) #[] #[] }, i + xs.length, updh hist s.wr xs, del ++ (un ++ xs), [], un ++ xs, ⟨H.r_, H.hi, hw, ?_, hf, by show s.roff + _ = i + _; rw [h3], hil, H.ex, H.sd.mono (by simp only [List.length_append]; omega)⟩, rfl, ?_, htr.nil, .inr ⟨.inl ⟨eo, rfl⟩, e, .inl e0, hS⟩⟩
  ·
   show s.rd ≤ s.wr + _; omega
  show _ = s.wr + xs.length - s.rd; rw [List.length_append, hu]; omega
end
end Go.Eng
namespace Go.Eng
open Go Go.Proofs Go.Infl
theorem updl_hist {h : Nat → Nat} : ∀ {xs : List Nat} {off : Nat}, updl (fun j => u8 (h j)) off (xs.map u8) = fun j => u8 (updh h off xs j) := by
 intro xs off
 funext j
 by_cases hj : off ≤ j ∧ j < off + xs.length
 ·
  have h1 : (xs.map u8)[j - off]? = some (u8 (xs.getD (j - off) 0)) := by
   rw [List.getElem?_map, List.getD_eq_getElem?_getD, List.getElem?_eq_getElem (by omega)]; rfl
  have := updl_get (F := fun j => u8 (h j)) (off := off) h1
  rw [show off + (j - off) = j by omega] at this
  rw [this]; unfold updh; rw [if_pos hj]
 unfold updh
 rw [if_neg hj]
 rcases Nat.lt_or_ge j off with h1 | h1
 ·
  rw [updl_lt h1]
 rw [updl_ge (by rw [List.length_map]; omega)]
theorem t110 {G : World} {R : List HProp} {w : World} {bb cb f r hb i : Nat} {B : List Bool} {hF : List Nat × Bool} {del un xs : List Nat} {ea : Addr} {s : DS} {hist : Nat → Nat} {rest : List Bool} {mu0 : Nat} (hE : EOFIs G ea) (hBl : B.length < 1099511627776) (H : Base bb cb r hb B s i hist (del ++ un)) (hu : un.length = s.wr - s.rd) (htr : TR hb hist s.toRead []) (herr : s.err = .nilIface) (hcl : s.cl = xs.length) (hnb : s.nb = 0) (hb0 : s.b = 0) (hx : ∀ x ∈ xs, x < 256) (hd : B.drop (8 * i) = xs.flatMap (nbits 8) ++ rest) (ha : After s.final (8 * i + 8 * xs.length) rest (del ++ un ++ xs) hF) (hmu : 1000 * (B.length - 8 * i) + 1 ≤ mu0)
 (hS : Sat G w (blk f 1054 (D s) :: Br r B i :: blk hb 32768 (fun j => u8 (hist j)) :: R)) : CallsR Tryz.prog 110 #[pt f 0] w (fun _ w' => RS true G R bb cb f r hb B hF (.iface 187 (.pointer (some ea))) del (· < mu0) w') := by
 have hlen := congrArg List.length hd
 rw [List.length_drop, List.length_append, bits8_length] at hlen
 have hpl := pack_length B
 have h1 := H.rw_; have h2 := H.wl; have h3 := H.ro; have h4 := H.il
 have hs : s = { s with r := rif r, b := 0, nb := 0, hist := Hw hb, cl := xs.length } := by have h5 := H.r_; have h6 := H.hi; cases s; simp_all
 replace hS := hS.D hs
 obtain ⟨m, hm⟩ : ∃ m, m = min xs.length (32768 - s.wr) := ⟨_, rfl⟩
 refine calls_in (n := 83) [(0, (pt f 0))] Tryz.func110 rfl rfl hS args1 ?_
 refine CT.q (TL.m m0 (TL.c m0 (TL.f 1037 fo_103_9 m0 (TL.call (r_call ce_125 (.cons T0 .nil)) (fun w hS => t125 f hb { s with r := rif r, b := 0, nb := 0, hist := Hw hb, cl := xs.length } (by show s.wr < 32768; omega) hS) ?_))))
 rintro z8 w8 ⟨hz8, hS⟩
 replace hz8 : z8 = (.slice (some ⟨hb, s.wr, none⟩) ((32768 - s.wr)) ((32768 - s.wr))) := hz8
 subst hz8
 refine TW.at hS (TL.a m0 (TL.b (.hd .u4) (CT.cut (X := Unit) (fun gx => [(2, (.slice (some ⟨hb, s.wr, none⟩) m ((32768 - s.wr)))), (0, (pt f 0))]) (fun gx => (blk f 1054 (D { s with r := rif r, b := 0, nb := 0, hist := Hw hb, cl := xs.length })) :: blk hb 32768 (fun jj => u8 (hist jj)) :: Br r B i :: R) (fun gx => True) ?_ ?_)))
 ·
  refine CT.q (TL.m m0 (TL.val (r_len Tryz.underlying22 T0) (TL.m m3 (TL.c m0 (TL.f 1052 fo_103_18 m0 (TL.val (r_ld (v := (i64 xs.length)) Tryz.isAgg3 m0 T0 (by decide) (Dget_cl _)) (TL.val (n_gtr ((32768 - s.wr)) xs.length T4 T0) (TL.b (.hd .u6) (CT.ifd m0 (fun c15 => ?_) (fun c15 => ?_))))))))))
  ·
   exact CT.sub .u1 (CT.region (TL.m m0 (TL.m m2 (TL.c m0 (TL.f 1052 fo_103_18 m0 (TL.val (r_ld (v := (i64 xs.length)) Tryz.isAgg3 m0 T0 (by decide) (Dget_cl _)) (TL.val (r_slice (off' := s.wr) (m := xs.length) (c' := (32768 - s.wr)) Tryz.underlying22 Tryz.sizeOf5 T4 .no (.so (j := xs.length) T0 rfl) (by first | (show 0 ≤ xs.length; omega) | (show xs.length ≤ 32768 - s.wr; omega)) (by first | (show 0 ≤ xs.length; omega) | (show xs.length ≤ 32768 - s.wr; omega)) (by simp) (by simp) (by simp)) (TL.rm .h6 (TL.a m0 (TL.x (.hd .u6) (EX.perm p1 (EX.perm p2 (EX.perm p2 (EX.meet () trivial (.refl _) (.eq m0 (by congr 1; omega) (.cons m1 .nil))))))))))))))))
  exact CT.z (EX.perm p1 (EX.perm p2 (EX.perm p2 (EX.meet () trivial (.refl _) (.eq m0 (by congr 1; omega) (.cons m1 .nil))))))
 rintro ⟨⟩ -
 refine CT.q (TL.m m1 (TL.c m0 (TL.f 0 fo_103_0 m0 (TL.val (r_ld (v := (rif r)) Tryz.isAgg87 m0 T0 (by decide) (Dget_r _)) (TL.m m4 (TL.perm p1 (TL.perm p2 (TL.call (r_call ce_107 (.cons T1 (.cons T0 .nil))) (fun w hS => t107 r i hb s.wr 32768 m ((32768 - s.wr)) ((fun j => u8 (hist j))) B (by omega) (by omega) (by omega) (by omega) hS) ?_))))))))
 rintro _ w28 ⟨rfl, hS⟩
 refine TW.at hS (TL.m m0 (TL.val (r_ext T0) (TL.val (r_ext T1) (TL.a m1 (TL.a m1 (TL.b (.hd (.hd .u9)) (CT.seq (CT.fold (A' := (blk hb 32768 (fun jj => u8 ((updh hist s.wr (xs.take m)) jj)))) a1 (blk_eq rfl (by rw [bytes_at hd hx (by omega)]; exact updl_hist)) (CT.region (TL.m m3 (TL.c m0 (TL.f 2 fo_103_2 m0 (TL.val (r_ld (v := (i64 s.roff)) Tryz.isAgg2 m2 T0 (by decide) (Dget_roff _)) (TL.m m5 (TL.val (n_add s.roff m 9223372036854775808 T1 T0) (TL.c m5 (TL.f 2 fo_103_2 m0 (TL.s (r_st (F' := D { s with r := rif r, roff := s.roff + m, b := 0, nb := 0, hist := Hw hb, cl := xs.length }) Tryz.sizeOf2 (Dsat_roff ((s.roff + m))) a2 T0 T2 (by decide)) (TL.r .u8 (TL.m m3 (TL.c m0 (TL.f 1052 fo_103_18 m0 (TL.val (r_ld (v := (i64 xs.length)) Tryz.isAgg3 m2 T0 (by decide) (Dget_cl _)) (TL.m m5 (TL.val (n_sub xs.length m 9223372036854775808 T1 T0) (TL.c m5 (TL.f 1052 fo_103_18 m0 (TL.s (r_st (F' := D { s with r := rif r, roff := s.roff + m, b := 0, nb := 0, hist := Hw hb, cl := xs.length - m }) Tryz.sizeOf3 (Dsat_cl ((xs.length - m))) a2 T0 T2 (by decide)) (TL.r .u8 ?_)))))))))))))))))))))))))))))
 refine TL.m m3 (TL.c m0 (TL.f 1037 fo_103_9 m0 (TL.m m4 (TL.perm p2 (TL.call (r_call ce_126 (.cons T1 (.cons T0 .nil))) (fun w hS => t126 f hb { s with r := rif r, roff := s.roff + m, b := 0, nb := 0, hist := Hw hb, cl := xs.length - m } m (by show s.wr + m ≤ 32768; omega) hS) ?_)))))
 rintro _ w51 ⟨rfl, hS⟩
 refine TW.at hS (TL.b .u5 (CT.seq (CT.q (TL.m m0 (TL.val (r_nen Tryz.underlying82 T0) (TL.b (.hd .u1) (CT.iff_ m0 ?_)))))))
 refine CT.z (EX.seq (CT.seq (CT.q (TL.m m3 (TL.c m0 (TL.f 1037 fo_103_9 m0 (TL.call (r_call ce_114 (.cons T0 .nil)) (fun w hS => t114 f hb { s with r := rif r, roff := s.roff + m, b := 0, nb := 0, hist := Hw hb, wr := s.wr + m, cl := xs.length - m } (by show (s.wr + m) ≤ 32768; omega) hS) ?_)))))))
 rintro z62 w62 ⟨hz62, hS⟩
 replace hz62 : z62 = (i64 (32768 - (s.wr + m))) := hz62
 subst hz62
 refine TW.at hS (TL.val (n_eql ((32768 - (s.wr + m))) 0 T0 .c) (TL.m m0 ?_))
 by_cases g64 : (32768 - (s.wr + m)) = 0
 ·
  refine TL.sub (.eq m0 (congrArg Value.bool (decide_eq_true g64)) (.eq m1 (congrArg Value.bool (decide_eq_true g64)) (.cons m2 (.cons m3 (.cons m4 (.cons m5 (.cons m6 (.cons m7 (.cons m8 (.cons m9 .nil)))))))))) (TL.gn m0 (TL.gn m0 (TL.gn m0 (TL.gn m0 (TL.gn m0 (TL.val (r_pickt T0 .c) (TL.b (.hd .u6) (CT.ift m0 ?_))))))))
  refine CT.y (TL.m m3 (TL.m m4 (TL.c m0 (TL.f 1037 fo_103_9 m0 (TL.call (r_call ce_108 (.cons T0 .nil)) (fun w hS => t108 f hb { s with r := rif r, roff := s.roff + m, b := 0, nb := 0, hist := Hw hb, wr := s.wr + m, cl := xs.length - m } (by show s.rd ≤ (s.wr + m); omega) (by show (s.wr + m) ≤ 32768; omega) (by show s.rd < 32768; omega) hS) ?_)))))
  rintro z75 w75 ⟨hz75, hS⟩
  replace hz75 : z75 = (.slice (some ⟨hb, s.rd, none⟩) (((s.wr + m) - s.rd)) ((32768 - s.rd))) := hz75
  subst hz75
  exact TW.at hS (TL.c m4 (TL.f 1049 fo_103_15 m0 (TL.s (r_st (F' := D { s with r := rif r, roff := s.roff + m, b := 0, nb := 0, hist := Hw hb, wr := (s.wr + m) % 32768, rd := (s.wr + m) % 32768, full := s.full || decide ((s.wr + m) = 32768), toRead := .slice (some ⟨hb, s.rd, none⟩) (((s.wr + m) - s.rd)) ((32768 - s.rd)), cl := xs.length - m }) Tryz.sizeOf22 (Dsat_toRead (.slice (some ⟨hb, s.rd, none⟩) (((s.wr + m) - s.rd)) ((32768 - s.rd)))) a0 T0 T2 (by decide)) (TL.r .u7 (TL.m m3 (TL.c m0 (TL.f 1045 fo_103_11 m0 (TL.s (r_st (F' := D { s with r := rif r, roff := s.roff + m, b := 0, nb := 0, hist := Hw hb, wr := (s.wr + m) % 32768, rd := (s.wr + m) % 32768, full := s.full || decide ((s.wr + m) = 32768), step := .func (.func 110) #[] #[], toRead := .slice (some ⟨hb, s.rd, none⟩) (((s.wr + m) - s.rd)) ((32768 - s.rd)), cl := xs.length - m }) Tryz.sizeOf100 (Dsat_step (.func (.func 110) #[] #[])) a0 T0 .f (by decide)) (TL.b .u3 (CT.ret (EX.then_ret (EX.perm p2 (EX.perm p2 (EX.perm p2 (EX.end_ (.inl rfl) (res0 Tryz.results110) (fun _ hS => copy_full H hu herr hcl hnb hb0 hx hd ha (by omega) (by omega) hmu (hS.D (by cases s; simp_all))))))))))))))))))
 refine TL.sub (.eq m0 (congrArg Value.bool (decide_eq_false g64)) (.eq m1 (congrArg Value.bool (decide_eq_false g64)) (.cons m2 (.cons m3 (.cons m4 (.cons m5 (.cons m6 (.cons m7 (.cons m8 (.cons m9 .nil)))))))))) (TL.gv m0 (r_move T9) (TL.gv m1 (r_nil T0) (TL.gv m2 (r_fa (off' := 1052) fo_103_18 T0) (TL.gv m3 (r_ld (v := (i64 (xs.length - m))) Tryz.isAgg3 m0 T0 (by decide) (Dget_cl _)) (TL.gv m4 (n_gtr ((xs.length - m)) 0 T0 .c) (TL.val (r_pickf T5 T0) (TL.b (.hd .u11) (CT.ifd m0 (fun c70 => ?_) (fun c70 => ?_)))))))))
 ·
  refine CT.y (TL.m m3 (TL.m m4 (TL.c m0 (TL.f 1037 fo_103_9 m0 (TL.call (r_call ce_108 (.cons T0 .nil)) (fun w hS => t108 f hb { s with r := rif r, roff := s.roff + m, b := 0, nb := 0, hist := Hw hb, wr := s.wr + m, cl := xs.length - m } (by show s.rd ≤ (s.wr + m); omega) (by show (s.wr + m) ≤ 32768; omega) (by show s.rd < 32768; omega) hS) ?_)))))
  rintro z75 w75 ⟨hz75, hS⟩
  replace hz75 : z75 = (.slice (some ⟨hb, s.rd, none⟩) (((s.wr + m) - s.rd)) ((32768 - s.rd))) := hz75
  subst hz75
  exact TW.at hS (TL.c m4 (TL.f 1049 fo_103_15 m0 (TL.s (r_st (F' := D { s with r := rif r, roff := s.roff + m, b := 0, nb := 0, hist := Hw hb, wr := (s.wr + m) % 32768, rd := (s.wr + m) % 32768, full := s.full || decide ((s.wr + m) = 32768), toRead := .slice (some ⟨hb, s.rd, none⟩) (((s.wr + m) - s.rd)) ((32768 - s.rd)), cl := xs.length - m }) Tryz.sizeOf22 (Dsat_toRead (.slice (some ⟨hb, s.rd, none⟩) (((s.wr + m) - s.rd)) ((32768 - s.rd)))) a0 T0 T2 (by decide)) (TL.r .u7 (TL.m m3 (TL.c m0 (TL.f 1045 fo_103_11 m0 (TL.s (r_st (F' := D { s with r := rif r, roff := s.roff + m, b := 0, nb := 0, hist := Hw hb, wr := (s.wr + m) % 32768, rd := (s.wr + m) % 32768, full := s.full || decide ((s.wr + m) = 32768), step := .func (.func 110) #[] #[], toRead := .slice (some ⟨hb, s.rd, none⟩) (((s.wr + m) - s.rd)) ((32768 - s.rd)), cl := xs.length - m }) Tryz.sizeOf100 (Dsat_step (.func (.func 110) #[] #[])) a0 T0 .f (by decide)) (TL.b .u3 (CT.ret (EX.then_ret (EX.perm p2 (EX.perm p2 (EX.perm p2 (EX.end_ (.inl rfl) (res0 Tryz.results110) (fun _ hS => copy_full H hu herr hcl hnb hb0 hx hd ha (by omega) (by omega) hmu (hS.D (by cases s; simp_all))))))))))))))))))
 refine CT.z (EX.seq (CT.region (TL.m m3 (TL.call (r_call ce_109 (.cons T0 .nil)) (fun w hS => t109 f hb { s with r := rif r, roff := s.roff + m, b := 0, nb := 0, hist := Hw hb, wr := s.wr + m, cl := xs.length - m } (by show s.rd ≤ (s.wr + m); omega) (by show (s.wr + m) < 32768; omega) hE hS) ?_))))
 rintro _ w82 ⟨rfl, hS⟩
 exact TW.at hS (TL.x .u2 (EX.perm p2 (EX.perm p2 (EX.perm p2 (EX.end_ (.inr rfl) (res0 Tryz.results110) (fun _ hS => copy_fin H hu htr herr hcl hnb hb0 hd ha (by omega) (by omega) hmu (hS.D (congrArg (finS · hb _) (by cases s; simp_all)))))))))
end Go.Eng
namespace Go.Eng
open Go Go.Proofs Go.Infl
section
variable {P : Program} {G w : World} {ρ : Env} {n : Nat} {L R : List HProp} {d : Option Tmp} {ty : TypeId} {pos : String} {af : Array Edge} {g : Option (Nat × Bool)}
theorem compl16 {x : Nat} (h : x < 65536) : IntKind.i64.wrap ((BitVec.ofInt 64 (-1) ^^^ BitVec.ofInt 64 (x : Int)).toNat : Int) = -(x : Int) - 1 := by
 have e : (BitVec.ofInt 64 (-1) ^^^ BitVec.ofInt 64 (x : Int)) = ~~~ (BitVec.ofNat 64 x) := by
  rw [show BitVec.ofInt 64 (-1) = BitVec.allOnes 64 by decide, BitVec.allOnes_xor, BitVec.ofInt_natCast]
 rw [e, BitVec.toNat_not, BitVec.toNat_ofNat, Nat.mod_eq_of_lt (by omega)]
 simp [IntKind.wrap, IntKind.signed, IntKind.bits]
 omega
theorem compl16' {x : Nat} (h : x < 65536) : IntKind.i64.wrap ((18446744073709551615#64 ^^^ BitVec.ofNat 64 x).toNat : Int) = -(x : Int) - 1 := by
 have := compl16 h
 rw [show BitVec.ofInt 64 (-1) = 18446744073709551615#64 by decide, BitVec.ofInt_natCast] at this
 exact this
theorem r_compl {t : TypeId} {x : Operand} {a : Nat} (hx : OV ρ x (.int .i64 (a : Int))) (h : a < 65536) : Run P G ρ n L ⟨d, .unOp .xor t x, ty, pos, af, g⟩ (.int .i64 (-(a : Int) - 1)) := fun w a' _ ha => by
 simp [execOp, hx.eval ha, Op.unary, Op.intBits, IntKind.signed, IntKind.bits]
 exact compl16' h
end
theorem conv16 {a : Nat} (h : a < 65536) : IntKind.u16.wrap (-(a : Int) - 1) = ((65535 - a : Nat) : Int) := by
 simp [IntKind.wrap, IntKind.signed, IntKind.bits]
 omega
theorem or16 {a : Nat} : (a % 256 ||| a / 256 * 2 ^ 8) = a := by
 rw [show a % 256 = a % 2 ^ 8 from rfl, or_add (Nat.mod_lt _ (by decide))]
 show a % 256 + a / 256 * 256 = a
 omega
theorem nbits16 (a : Nat) : nbits 16 a = nbits 8 (a % 256) ++ nbits 8 (a / 256) := by
 apply List.ext_getElem?
 intro j
 unfold nbits
 rw [List.getElem?_append]
 simp only [List.length_map, List.length_range, List.getElem?_map]
 by_cases h1 : j < 8
 ·
  rw [if_pos h1, List.getElem?_range (by omega), List.getElem?_range h1]
  simp only [Option.map_some]
  rw [show a % 256 = a % 2 ^ 8 from rfl, Nat.testBit_mod_two_pow]
  simp [h1]
 rw [if_neg h1]
 by_cases h2 : j < 16
 ·
  rw [List.getElem?_range h2, List.getElem?_range (by omega)]
  simp only [Option.map_some]
  rw [show a / 256 = a / 2 ^ 8 from rfl, Nat.testBit_div_two_pow]
  congr 2
  omega
 rw [List.getElem?_eq_none (by simp; omega), List.getElem?_eq_none (by simp; omega)]
 rfl
theorem buf4 {s : DS} {a b c d : Nat} : updl (D s) 1041 [u8 a, u8 b, u8 c, u8 d] = D { s with b0 := a, b1 := b, b2 := c, b3 := d } := by
 show upd (upd (upd (upd (D s) 1041 _) 1042 _) 1043 _) 1044 _ = _
 rw [Dset_b0, Dset_b1, Dset_b2, Dset_b3]
def Qt (z : Bool) (f : Nat) (B : List Bool) (hF : List Nat × Bool) (eof : Value) (s : DS) (i : Nat) (h c un : List Nat) (ok : Nat → Prop) : HProp := hex fun o : Option Nat => match o with
 | some mu => sep [hpure (s.err = .nilIface ∧ ok mu), Pl f B hF s i h mu]
 | none => hpure (EV hF eof s.err ∧ h = hF.1 ∧ (un = [] ∨ z = true ∧ c = []))
def RSA (z : Bool) (bb cb f r hb : Nat) (B : List Bool) (hF : List Nat × Bool) (eof : Value) (del : List Nat) (ok : Nat → Prop) : HProp :=
 hex fun x : DS × Nat × (Nat → Nat) × List Nat × List Nat × List Nat => sep [hpure (Base bb cb r hb B x.1 x.2.1 x.2.2.1 x.2.2.2.1 ∧ x.2.2.2.1 = del ++ (x.2.2.2.2.1 ++ x.2.2.2.2.2) ∧ x.2.2.2.2.2.length = x.1.wr - x.1.rd ∧ TR hb x.2.2.1 x.1.toRead x.2.2.2.2.1),
  blk f 1054 (D x.1), Br r B x.2.1, blk hb 32768 (fun j => u8 (x.2.2.1 j)), Qt z f B hF eof x.1 x.2.1 x.2.2.2.1 x.2.2.2.2.1 x.2.2.2.2.2 ok]
theorem RS.toA {G w : World} {R : List HProp} {z : Bool} {bb cb f r hb : Nat} {B : List Bool} {hF : List Nat × Bool} {del : List Nat} {eof : Value} {ok : Nat → Prop} (h : RS z G R bb cb f r hb B hF eof del ok w) : Sat G w (RSA z bb cb f r hb B hF eof del ok :: R) := by
 obtain ⟨s, i, hist, h, c, un, h1, h2, h3, h4, ⟨h5, mu, h6, hS⟩ | ⟨h5, h6, h7, hS⟩⟩ := h
 ·
  have a1 : Sat G w (sep [hpure (s.err = .nilIface ∧ ok mu), Pl f B hF s i h mu] :: blk f 1054 (D s) :: Br r B i :: blk hb 32768 (fun j => u8 (hist j)) :: R) :=
   Sat.resep (Ls := [hpure (s.err = .nilIface ∧ ok mu), Pl f B hF s i h mu]) (Sat.emp ⟨h5, h6⟩ (hS.perm p3))
  have a2 : Sat G w (Qt z f B hF eof s i h c un ok :: blk f 1054 (D s) :: Br r B i :: blk hb 32768 (fun j => u8 (hist j)) :: R) := a1.imp fun m hm => ⟨some mu, hm⟩
  exact (Sat.resep (Ls := [hpure (Base bb cb r hb B s i hist h ∧ h = del ++ (c ++ un) ∧ un.length = s.wr - s.rd ∧ TR hb hist s.toRead c), blk f 1054 (D s), Br r B i, blk hb 32768 (fun j => u8 (hist j)), _]) (Sat.emp (A := hpure (Base bb cb r hb B s i hist h ∧ h = del ++ (c ++ un) ∧ un.length = s.wr - s.rd ∧ TR hb hist s.toRead c)) ⟨h1, h2, h3, h4⟩ (a2.perm (List.perm_middle (l₁ := [blk f 1054 (D s), Br r B i, blk hb 32768 (fun j => u8 (hist j))])).symm))).imp fun m hm => ⟨(s, i, hist, h, c, un), hm⟩
 have a2 : Sat G w (Qt z f B hF eof s i h c un ok :: blk f 1054 (D s) :: Br r B i :: blk hb 32768 (fun j => u8 (hist j)) :: R) := (hS.emp (A := hpure (EV hF eof s.err ∧ h = hF.1 ∧ (un = [] ∨ z = true ∧ c = []))) ⟨h5, h6, h7⟩).imp fun m hm => ⟨none, hm⟩
 exact (Sat.resep (Ls := [hpure (Base bb cb r hb B s i hist h ∧ h = del ++ (c ++ un) ∧ un.length = s.wr - s.rd ∧ TR hb hist s.toRead c), blk f 1054 (D s), Br r B i, blk hb 32768 (fun j => u8 (hist j)), _]) (Sat.emp (A := hpure (Base bb cb r hb B s i hist h ∧ h = del ++ (c ++ un) ∧ un.length = s.wr - s.rd ∧ TR hb hist s.toRead c)) ⟨h1, h2, h3, h4⟩ (a2.perm (List.perm_middle (l₁ := [blk f 1054 (D s), Br r B i, blk hb 32768 (fun j => u8 (hist j))])).symm))).imp fun m hm => ⟨(s, i, hist, h, c, un), hm⟩
theorem Sat.rsa {G w : World} {R : List HProp} {z : Bool} {bb cb f r hb : Nat} {B : List Bool} {hF : List Nat × Bool} {del : List Nat} {eof : Value} {ok : Nat → Prop} (h : Sat G w (RSA z bb cb f r hb B hF eof del ok :: R)) : RS z G R bb cb f r hb B hF eof del ok w := by
 obtain ⟨⟨s, i, hist, h, c, un⟩, hS⟩ := h.ex
 obtain ⟨⟨h1, h2, h3, h4⟩, hS⟩ := (Sat.unsep hS).pure
 obtain ⟨o, hS⟩ := (hS.perm p3).ex
 refine ⟨s, i, hist, h, c, un, h1, h2, h3, h4, ?_⟩
 cases o with
 | some mu =>
  obtain ⟨⟨h5, h6⟩, hS⟩ := (Sat.unsep hS).pure
  exact .inl ⟨h5, mu, h6, hS.perm (List.perm_middle (l₁ := [Eng.blk f 1054 (Eng.D s), Br r B i, Eng.blk hb 32768 (fun j => u8 (hist j))])).symm⟩
 | none =>
  obtain ⟨⟨h5, h6, h7⟩, hS⟩ := hS.pure
  exact .inr ⟨h5, h6, h7, hS⟩
end Go.Eng
namespace Go.Eng
open Go
theorem Sat.only {G w : World} {L : List HProp} {A : HProp} (hA : A ∈ L) (h : Sat G w L) : Sat G w [A] := by
 obtain ⟨m, h1, h2⟩ := SatL.get hA h.sat
 exact { h with sat := ⟨m, h1, h2, trivial⟩ }
section
variable {P : Program} {G : World} {ρ : Env} {n : Nat} {L : List HProp} {Q : Exit → Act → World → Prop} {ops : Array Oper} {rest : List Oper} {d : Nat} {op : Op} {ty : TypeId} {pos : String} {af : Array Edge}
theorem CT.condf {x y : Code} (k : CT P y Q ρ n G L) : CT P (.cond (.const (.bool false)) x y) Q ρ n G L :=
 fun w a hS ha => wp_cond_split (show a.eval (.const (.bool false)) = .bool false from rfl) (fun e => by cases e) (fun _ => k w a hS ha)
theorem TL.gnu {j g : Nat} {b want : Bool} (hb : (g, .bool b) ∈ ρ) (k : TL P Q ops rest ((d, undef) :: ρ) n G L) (hw : (b == want) = false := by rfl) (hj : (ops[j]?).bind (·.dst) = some g := by rfl) (hc : chk d n ρ = true := by rfl) :
 TL P Q ops (⟨some d, op, ty, pos, af, some (j, want)⟩ :: rest) ρ n G L := by
 intro w a hS ha
 refine wpList_step fun K hK => ?_
 rw [wanted_of hj hb ha, hw, if_neg (by simp)]
 exact hK _ _ (k w _ hS (ha.put hc))
theorem wanted_undef {j g : Nat} {want : Bool} {a : Act} (hj : (ops[j]?).bind (·.dst) = some g) (hb : (g, undef) ∈ ρ) (ha : Ok ρ n a) :
 Region.wanted ⟨some d, op, ty, pos, af, some (j, want)⟩ (yielded ops a.tmps) = false := by
 have hv := ha.vals _ _ hb
 simp only [Region.wanted, yielded, hj, Option.bind_some]
 cases e : a.tmps[g]? with
 | none => rfl
 | some x =>
  rw [Array.getD_eq_getD_getElem?, e] at hv
  obtain rfl : x = undef := hv
  rfl
theorem TL.gu {j g : Nat} {want : Bool} (hb : (g, undef) ∈ ρ) (k : TL P Q ops rest ((d, undef) :: ρ) n G L) (hj : (ops[j]?).bind (·.dst) = some g := by rfl) (hc : chk d n ρ = true := by rfl) :
 TL P Q ops (⟨some d, op, ty, pos, af, some (j, want)⟩ :: rest) ρ n G L := by
 intro w a hS ha
 refine wpList_step fun K hK => ?_
 rw [wanted_undef hj hb ha, if_neg (by simp)]
 exact hK _ _ (k w _ hS (ha.put hc))
end
def TH (P : Program) (Q : Exit → Act → World → Prop) (ops : Array Oper) (LS : List HProp) (fuel : Nat) (listed : Array Bool) (ρ : Env) (n : Nat) (G : World) (L : List HProp) : Prop :=
 ∀ w a, Sat G w L → Ok ρ n a → wpAnyH P .any ops Q (fun w => Sat G w LS) fuel listed a w
def THB (P : Program) (Q : Exit → Act → World → Prop) (ops : Array Oper) (LS : List HProp) (fuel : Nat) (listed : Array Bool) (ρ : Env) (n : Nat) (G w : World) : Prop := ∀ a, Ok ρ n a → wpAnyH P .any ops Q (fun w => Sat G w LS) fuel listed a w
section
variable {P : Program} {G : World} {ρ ρ' : Env} {n : Nat} {L L' LS : List HProp} {Q : Exit → Act → World → Prop} {ops : Array Oper} {fuel : Nat} {listed : Array Bool}
 {d : Nat} {op : Op} {ty : TypeId} {pos : String} {af : Array Edge} {v : Value}
theorem CT.held {id : Nat} (LS : List HProp) (hm : P.follows .mixedOrders = true) (k : TH P Q ops LS ops.size (Array.replicate ops.size false) ρ n G L) : CT P (.region id ops true) Q ρ n G L :=
 fun w a hS ha => wp_region_held hm (k _ a (hS.drew _) ha)
theorem TH.take (i : Nat) (hi : ops[i]? = some ⟨some d, op, ty, pos, af, none⟩) (hs : Region.noSelect ops = true) (hf : Region.free .any ops listed i = true) (hr : (Region.ready .any ops listed).contains i = true) (hQ : NP Q)
 (hsub : ∀ w, Sat G w L → Sat G w LS) (hrun : Run P G ρ n LS ⟨some d, op, ty, pos, af, none⟩ v) (k : TH P Q ops LS fuel (listed.setIfInBounds i true) ((d, v) :: ρ) n G L) (hc : chk d n ρ = true := by rfl) : TH P Q ops LS (fuel + 1) listed ρ n G L :=
 fun w a hS ha => wpAnyH_take hi hs hf hr (fun c a w h => (hQ c _ w h).elim) (.inl ⟨rfl, fun w' hw' => hrun w' a hw' ha⟩) (hsub w hS) (k w _ hS (ha.put hc))
theorem TH.oneW {K : Value → World → Prop} (i : Nat) (hr : Region.ready .any ops listed = [i]) (hi : ops[i]? = some ⟨some d, op, ty, pos, af, none⟩) (hrun : RunW P G ρ n L ⟨some d, op, ty, pos, af, none⟩ K)
 (k : ∀ v w, K v w → Sat G w LS ∧ THB P Q ops LS fuel (listed.setIfInBounds i true) ((d, v) :: ρ) n G w) (hc : chk d n ρ = true := by rfl) : TH P Q ops LS (fuel + 1) listed ρ n G L :=
 fun w a hS ha => wpAnyH_all hr (by simp) fun j hj => by
  rw [List.mem_singleton] at hj; subst hj
  unfold wpOp
  simp only [hi, Region.wanted, if_true]
  refine .inl ?_
  unfold Oper.wp
  obtain ⟨v, w', e, hk⟩ := hrun w a hS ha
  rw [e, Oper.upon_value]
  exact ⟨(k v w' hk).1, (k v w' hk).2 _ (ha.put hc)⟩
theorem TH.oneS (i : Nat) (hr : Region.ready .any ops listed = [i]) (hi : ops[i]? = some ⟨none, op, ty, pos, af, none⟩) (hrun : RunS P G ρ n L ⟨none, op, ty, pos, af, none⟩ L') (hsub : ∀ w, Sat G w L' → Sat G w LS)
 (k : TH P Q ops LS fuel (listed.setIfInBounds i true) ρ n G L') : TH P Q ops LS (fuel + 1) listed ρ n G L :=
 fun w a hS ha => wpAnyH_all hr (by simp) fun j hj => by
  rw [List.mem_singleton] at hj; subst hj
  unfold wpOp
  simp only [hi, Region.wanted, if_true]
  refine .inl ?_
  unfold Oper.wp
  obtain ⟨w', e, hS'⟩ := hrun w a hS ha
  rw [e, Oper.upon_skip]
  exact ⟨hsub w' hS', k w' _ hS' ha⟩
theorem TH.oneC {f : FuncId} {args : Array Value} {R : Value → World → Prop} (i : Nat) (hr : Region.ready .any ops listed = [i]) (hi : ops[i]? = some ⟨some d, op, ty, pos, af, none⟩) (hrun : RunC P G ρ n L ⟨some d, op, ty, pos, af, none⟩ f args)
 (hcc : ∀ w, Sat G w L → CallsR P f args w R) (k : ∀ v w, R v w → Sat G w LS ∧ THB P Q ops LS fuel (listed.setIfInBounds i true) ((d, v) :: ρ) n G w) (hc : chk d n ρ = true := by rfl) : TH P Q ops LS (fuel + 1) listed ρ n G L :=
 fun w a hS ha => wpAnyH_all hr (by simp) fun j hj => by
  rw [List.mem_singleton] at hj; subst hj
  unfold wpOp
  simp only [hi, Region.wanted, if_true]
  refine .inl ?_
  unfold Oper.wp
  rw [hrun w a hS ha, Oper.upon_enter]
  refine Calls.mono (hcc w hS) fun e w' he => ?_
  cases e with
  | returned v => exact ⟨(k v w' he).1, (k v w' he).2 _ (ha.put hc)⟩
  | panicked _ => exact he.elim
  | outgrown => exact he.elim
theorem TH.done (hr : Region.ready .any ops listed = []) (k : EX Q .normal ρ n G L) : TH P Q ops LS fuel listed ρ n G L := fun w a hS ha => wpAnyH_done hr (k w a hS ha) fuel
theorem TH.perm (p : L.Perm L') (k : TH P Q ops LS fuel listed ρ n G L') : TH P Q ops LS fuel listed ρ n G L := fun w a hS ha => k w a (hS.perm p) ha
theorem TH.sub (s : Sub ρ' ρ) (k : TH P Q ops LS fuel listed ρ' n G L) : TH P Q ops LS fuel listed ρ n G L := fun w a hS ha => k w a hS (ha.sub s)
theorem TH.conv (e : ∀ w, Sat G w L → Sat G w L') (k : TH P Q ops LS fuel listed ρ n G L') : TH P Q ops LS fuel listed ρ n G L := fun w a hS ha => k w a (e w hS) ha
theorem THB.at {w : World} (hS : Sat G w L) (k : TH P Q ops LS fuel listed ρ n G L) : THB P Q ops LS fuel listed ρ n G w := fun a ha => k w a hS ha
end
end Go.Eng
namespace Go.Eng
open Go
section
variable {P : Program} {G : World} {ρ : Env} {n : Nat} {L LS : List HProp} {Q : Exit → Act → World → Prop} {ops : Array Oper} {fuel : Nat} {listed : Array Bool}
 {d : Nat} {op : Op} {ty : TypeId} {pos : String} {af : Array Edge} {v : Value}
theorem TH.t (i : Nat) (hi : ops[i]? = some ⟨some d, op, ty, pos, af, none⟩) (hsub : ∀ w, Sat G w L → Sat G w LS) (hrun : Run P G ρ n LS ⟨some d, op, ty, pos, af, none⟩ v) (k : TH P Q ops LS fuel (listed.setIfInBounds i true) ((d, v) :: ρ) n G L) (hs : Region.noSelect ops = true := by kernel_rfl) (hf : Region.free .any ops listed i = true := by kernel_rfl) (hr : (Region.ready .any ops listed).contains i = true := by kernel_rfl) (hQ : NP Q := by repeat (with_reducible first | exact NP.body | apply NP.then_ | apply NP.inBlock | apply NP.jumps)) (hc : chk d n ρ = true := by rfl) : TH P Q ops LS (fuel + 1) listed ρ n G L := TH.take i hi hs hf hr hQ hsub hrun k hc
end
end Go.Eng
namespace Go.Eng
open Go Go.Proofs Go.Infl
theorem cstep {wr m src j2 d c2 : Nat} (hJ : j2 ≤ m) (e2 : src + d * c2 = wr + j2) (hlt : j2 + min (wr + j2 - src) (wr + m - (wr + j2)) < m) : src + d * (2 * c2) = wr + (j2 + min (wr + j2 - src) (wr + m - (wr + j2))) := by
 rw [show d * (2 * c2) = 2 * (d * c2) by rw [← Nat.mul_assoc, Nat.mul_comm d 2, Nat.mul_assoc]]
 omega
theorem copy_u8 {hist : Nat → Nat} {h : List Nat} {d n j l t : Nat} {src : Nat} {x : Value} (hx : ((((xsM h d n).drop j).take l).map u8)[t]? = some x) (e : t < l → hist (src + t) = (xsM h d n).getD (j + t) 0) : u8 (hist (src + t)) = x := by
 rw [List.getElem?_map, List.getElem?_take] at hx
 split at hx
 ·
  rename_i ht
  rw [List.getElem?_drop] at hx
  rw [e ht]
  cases h1 : (xsM h d n)[j + t]? with
  | none => rw [h1] at hx; cases hx
  | some y => rw [h1] at hx; cases hx; rw [List.getD_eq_getElem?_getD, h1]; rfl
 cases hx
theorem copy_step {hist : Nat → Nat} {h : List Nat} {d n j l wr j' : Nat} (hl : j + l ≤ n) (hj : j' = j + l) : (fun i => u8 (updh (updh hist wr (xsM h d j)) (wr + j) (((xsM h d n).drop j).take l) i)) = fun i => u8 (updh hist wr (xsM h d j') i) := by
 subst hj
 have e : xsM h d j ++ ((xsM h d n).drop j).take l = xsM h d (j + l) := by
  rw [← xsM_take (show j + l ≤ n from hl), ← xsM_take (show j ≤ n by omega), List.take_add]
 rw [← e, ← updh_app, xsM_length]
theorem wrap_step {hist : Nat → Nat} {h : List Nat} {d n l wr j' : Nat} (hj : j' = l ∧ l ≤ n) : (fun i => u8 (updh hist wr (((xsM h d n).drop 0).take l) i)) = fun i => u8 (updh hist wr (xsM h d j') i) := by
 obtain ⟨rfl, hl⟩ := hj
 rw [List.drop_zero, xsM_take hl]
theorem t113 (f hb : Nat) (s : DS) (hist : Nat → Nat) (c : Nat) (h1 : s.wr < 32768) {G : World} {R : List HProp} {w : World} (hS : Sat G w (blk f 1054 (D { s with hist := Hw hb }) :: blk hb 32768 (fun jj => u8 (hist jj)) :: R)) :
 CallsR Tryz.prog 113 #[(pt f 1037), (u8 c)] w (fun v w' => v = .tuple #[] ∧ Sat G w' (blk f 1054 (D { s with hist := Hw hb, wr := s.wr + 1 }) :: blk hb 32768 (fun jj => u8 ((updh hist s.wr [c]) jj)) :: R)) := by
 refine calls_in (n := 21) [(0, (pt f 1037)), (1, (u8 c))] Tryz.func113 rfl rfl hS args2 ?_
 refine CT.seq (CT.draw 10 fm (by kernel_rfl) ?_)
 exact TS.m m0 (TS.c m0 (TS.f 1037 fo_98_0 m0 (TS.val (r_ld (v := (Hw hb)) Tryz.isAgg22 m0 T0 (by decide) (Dget_hist _)) (TS.m m4 (TS.c m0 (TS.f 1038 fo_98_1 m0 (TS.val (r_ld (v := (i64 s.wr)) Tryz.isAgg3 m0 T0 (by decide) (Dget_wr _)) (TS.m m9 (TS.val (r_ia (i := s.wr) (off' := s.wr) Tryz.underlying22 Tryz.sizeOf5 T5 T1 rfl (by omega) (by omega)) (TS.nil (TL.s (r_st (F' := fun jj => u8 ((updh hist s.wr [c]) jj)) Tryz.sizeOf5 (updl_hist (h := hist) (off := s.wr) (xs := [c])) a1 T0 T1 (by omega)) (TL.b (.tl (.tl (.tl (.tl (.tl (.tl (.tl (.tl (.tl (.tl (.hd .u1))))))))))) (CT.region (TL.m m0 (TL.c m0 (TL.f 1038 fo_98_1 m0 (TL.val (r_ld (v := (i64 s.wr)) Tryz.isAgg3 m0 T0 (by decide) (Dget_wr _)) (TL.val (n_add s.wr 1 9223372036854775808 T0 .c) (TL.c m4 (TL.f 1038 fo_98_1 m0 (TL.s (r_st (F' := D { s with hist := Hw hb, wr := s.wr + 1 }) Tryz.sizeOf3 (Dsat_wr ((s.wr + 1))) a0 T0 T2 (by decide)) (TL.x .u7 (EX.perm p1 (EX.perm p1 (EX.end_ (.inr rfl) (res0 Tryz.results113) (fun _ hS => ⟨rfl, hS⟩))))))))))))))))))))))))))
theorem t117_no (f hb : Nat) (s : DS) (hist : Nat → Nat) (d n : Nat) (h : List Nat) (H : Win hist s.wr s.full h) (hw : s.wr < 32768) (hd : 1 ≤ d) (hdl : d ≤ h.length) (hd2 : d ≤ 32768) (hn : n ≤ 258) (hno : s.wr < d ∨ 32768 < s.wr + n) {G : World} {R : List HProp} {w : World} (hS : Sat G w (blk f 1054 (D { s with hist := Hw hb }) :: blk hb 32768 (fun jj => u8 (hist jj)) :: R)) :
 CallsR Tryz.prog 117 #[(pt f 1037), (i64 d), (i64 n)] w (fun v w' => v = i64 0 ∧ Sat G w' (blk f 1054 (D { s with hist := Hw hb }) :: blk hb 32768 (fun jj => u8 (hist jj)) :: R)) := by
 refine calls_in (n := 61) [(0, (pt f 1037)), (1, (i64 d)), (2, (i64 n))] Tryz.func117 rfl rfl hS args3 ?_
 refine CT.q (TL.val (r_asg .c) (TL.q (TL.m m1 (TL.c m0 (TL.f 1038 fo_98_1 m0 (TL.val (r_ld (v := (i64 s.wr)) Tryz.isAgg3 m0 T0 (by decide) (Dget_wr _)) (TL.a m0 (TL.r (.hd .u4) (TL.m m0 (TL.m m5 (TL.val (n_add s.wr n 9223372036854775808 T1 T0) (TL.a m0 (TL.b (.hd (.tl (.tl (.tl (.hd (.hd (.hd (.hd .u1)))))))) (CT.seq (CT.q (TL.m m1 (TL.m m5 (TL.val (n_lss s.wr d T1 T0) (TL.m m0 ?_)))))))))))))))))))
 by_cases g21 : s.wr < d
 ·
  refine TL.sub (.eq m0 (congrArg Value.bool (decide_eq_true g21)) (.eq m1 (congrArg Value.bool (decide_eq_true g21)) (.cons m2 (.cons m3 (.cons m4 (.cons m5 (.cons m6 (.cons m7 (.cons m8 .nil))))))))) (TL.gn m0 (TL.gn m0 (TL.gn m0 (TL.gn m0 (TL.gn m0 (TL.gn m0 (TL.gn m0 (TL.val (r_pickt T0 .c) (TL.b (.hd .u4) (CT.ift m0 ?_))))))))))
  exact CT.y (TL.rm .h2 (TL.val (r_asg .c) (TL.e (CT.ret (EX.then_ret (EX.perm p1 (EX.perm p1 (EX.end_ (.inl rfl) (res1 Tryz.results117 m0) (fun _ hS => ⟨rfl, hS⟩)))))))))
 refine TL.sub (.eq m0 (congrArg Value.bool (decide_eq_false g21)) (.eq m1 (congrArg Value.bool (decide_eq_false g21)) (.cons m2 (.cons m3 (.cons m4 (.cons m5 (.cons m6 (.cons m7 (.cons m8 .nil))))))))) (TL.gv m0 (r_move T4) (TL.gv m1 (r_move T8) (TL.gv m2 (r_nil T0) (TL.gv m3 (r_fa (off' := 1037) fo_98_0 T0) (TL.gv m4 (r_ld (v := (Hw hb)) Tryz.isAgg22 m0 T0 (by decide) (Dget_hist _)) (TL.gv m5 (r_len Tryz.underlying22 T0) (TL.gv m6 (n_gtr ((s.wr + n)) 32768 T5 T0) (TL.val (r_pickf T7 T0) (TL.b (.hd .u11) (CT.ifd m0 (fun c29 => ?_) (fun c29 => ?_)))))))))))
 ·
  exact CT.y (TL.rm .h2 (TL.val (r_asg .c) (TL.e (CT.ret (EX.then_ret (EX.perm p1 (EX.perm p1 (EX.end_ (.inl rfl) (res1 Tryz.results117 m0) (fun _ hS => ⟨rfl, hS⟩)))))))))
 exfalso; omega
theorem t117_yes (f hb : Nat) (s : DS) (hist : Nat → Nat) (d n : Nat) (h : List Nat) (H : Win hist s.wr s.full h) (hw : s.wr < 32768) (hd : 1 ≤ d) (hdl : d ≤ h.length) (hd2 : d ≤ 32768) (hn : n ≤ 258) (h1 : d ≤ s.wr) (h2 : s.wr + n ≤ 32768) {G : World} {R : List HProp} {w : World} (hS : Sat G w (blk f 1054 (D { s with hist := Hw hb }) :: blk hb 32768 (fun jj => u8 (hist jj)) :: R)) :
 CallsR Tryz.prog 117 #[(pt f 1037), (i64 d), (i64 n)] w (fun v w' => v = i64 n ∧ Sat G w' (blk f 1054 (D { s with hist := Hw hb, wr := s.wr + n }) :: blk hb 32768 (fun jj => u8 ((updh hist s.wr (xsM h d n)) jj)) :: R)) := by
 refine calls_in (n := 61) [(0, (pt f 1037)), (1, (i64 d)), (2, (i64 n))] Tryz.func117 rfl rfl hS args3 ?_
 refine CT.q (TL.val (r_asg .c) (TL.q (TL.m m1 (TL.c m0 (TL.f 1038 fo_98_1 m0 (TL.val (r_ld (v := (i64 s.wr)) Tryz.isAgg3 m0 T0 (by decide) (Dget_wr _)) (TL.a m0 (TL.r (.hd .u4) (TL.m m0 (TL.m m5 (TL.val (n_add s.wr n 9223372036854775808 T1 T0) (TL.a m0 (TL.b (.hd (.tl (.tl (.tl (.hd (.hd (.hd (.hd .u1)))))))) (CT.seq (CT.q (TL.m m1 (TL.m m5 (TL.val (n_lss s.wr d T1 T0) (TL.m m0 ?_)))))))))))))))))))
 by_cases g21 : s.wr < d
 ·
  exfalso; omega
 refine TL.sub (.eq m0 (congrArg Value.bool (decide_eq_false g21)) (.eq m1 (congrArg Value.bool (decide_eq_false g21)) (.cons m2 (.cons m3 (.cons m4 (.cons m5 (.cons m6 (.cons m7 (.cons m8 .nil))))))))) (TL.gv m0 (r_move T4) (TL.gv m1 (r_move T8) (TL.gv m2 (r_nil T0) (TL.gv m3 (r_fa (off' := 1037) fo_98_0 T0) (TL.gv m4 (r_ld (v := (Hw hb)) Tryz.isAgg22 m0 T0 (by decide) (Dget_hist _)) (TL.gv m5 (r_len Tryz.underlying22 T0) (TL.gv m6 (n_gtr ((s.wr + n)) 32768 T5 T0) (TL.val (r_pickf T7 T0) (TL.b (.hd .u11) (CT.ifd m0 (fun c29 => ?_) (fun c29 => ?_)))))))))))
 ·
  exfalso; omega
 refine CT.z (EX.q (TL.m m1 (TL.a m0 (TL.r (.hd .u1) (TL.m m2 (TL.m m6 (TL.val (n_sub s.wr d 9223372036854775808 T1 T0) (TL.a m0 (TL.b (.hd .u3) (CT.seq (CT.block (CT.fold (A' := (blk hb 32768 (fun jj => u8 ((updh hist s.wr (xsM h d 0)) jj)))) a1 (blk_eq rfl (by rw [show xsM h d 0 = [] from List.length_eq_zero_iff.1 (xsM_length h d 0), updh_nil])) (CT.loop (X := Nat × Nat) (fun gx => [(7, (i64 (s.wr + gx.1))), (10, (i64 (s.wr - d))), (9, (i64 s.wr)), (8, (i64 (s.wr + n))), (6, (.int .i64 0)), (0, (pt f 1037)), (1, (i64 d))]) (fun gx => (blk f 1054 (D { s with hist := Hw hb })) :: blk hb 32768 (fun jj => u8 ((updh hist s.wr (xsM h d gx.1)) jj)) :: R) (fun gx => gx.1 ≤ n ∧ (gx.1 < n → d * gx.2 = d + gx.1)) (fun gx => n - gx.1) ((0, 1)) (⟨Nat.zero_le _, fun _ => Nat.mul_one d⟩) (.refl _) (.eq m3 (by first | rfl | (congr 1 <;> omega)) (.cons m0 (.cons m1 (.cons m2 (.sl 4 3 rfl))))) ?_)))))))))))))
 rintro ⟨j, c⟩ ⟨hI1, hI2⟩
 replace hI1 : j ≤ n := hI1
 replace hI2 : j < n → d * c = d + j := hI2
 refine CT.seq (CT.q (TL.m m0 (TL.m m4 (TL.val (n_lss ((s.wr + j)) ((s.wr + n)) T1 T0) (TL.b (.hd .u2) (CT.ifd m0 (fun c36 => ?_) (fun c36 => ?_)))))))
 ·
  have c36' : j < n := by omega
  refine CT.z (EX.seq (CT.block (CT.held [(blk f 1054 (D { s with hist := Hw hb }))] fm ?_)))
  refine TH.t 0 rfl (fun w h => h.only m0) (r_move T0) (TH.t 1 rfl (fun w h => h.only m0) (r_move T6) (TH.t 2 rfl (fun w h => h.only m0) (r_nil T0) (TH.t 3 rfl (fun w h => h.only m0) (r_fa (off' := 1037) fo_98_0 T0) (TH.t 4 rfl (fun w h => h.only m0) (r_ld (v := (Hw hb)) Tryz.isAgg22 m0 T0 (by decide) (Dget_hist _)) (TH.t 5 rfl (fun w h => h.only m0) (r_move T5) (TH.t 6 rfl (fun w h => h.only m0) (r_move T9) (TH.t 7 rfl (fun w h => h.only m0) (r_slice (off' := (s.wr + j)) (m := (s.wr + n) - (s.wr + j)) (c' := 32768 - (s.wr + j)) Tryz.underlying22 Tryz.sizeOf5 T2 (.so (j := (s.wr + j)) T1 rfl) (.so (j := (s.wr + n)) T0 rfl) (by first | (show s.wr + j ≤ s.wr + n; omega) | (show s.wr + n ≤ 32768; omega)) (by first | (show s.wr + j ≤ s.wr + n; omega) | (show s.wr + n ≤ 32768; omega)) (by show (if 32768 = s.wr + j then 0 else 0 + (s.wr + j) * 1) = _; rw [if_neg (by omega)]; omega) (by simp) (by simp)) (TH.t 8 rfl (fun w h => h.only m0) (r_move T13) (TH.t 9 rfl (fun w h => h.only m0) (r_nil T0) (TH.t 10 rfl (fun w h => h.only m0) (r_fa (off' := 1037) fo_98_0 T0) (TH.t 11 rfl (fun w h => h.only m0) (r_ld (v := (Hw hb)) Tryz.isAgg22 m0 T0 (by decide) (Dget_hist _)) (TH.t 12 rfl (fun w h => h.only m0) (r_move T13) (TH.t 13 rfl (fun w h => h.only m0) (r_move T13) (TH.t 14 rfl (fun w h => h.only m0) (r_slice (off' := (s.wr - d)) (m := (s.wr + j) - (s.wr - d)) (c' := 32768 - (s.wr - d)) Tryz.underlying22 Tryz.sizeOf5 T2 (.so (j := (s.wr - d)) T1 rfl) (.so (j := (s.wr + j)) T0 rfl) (by first | (show s.wr - d ≤ s.wr + j; omega) | (show s.wr + j ≤ 32768; omega)) (by first | (show s.wr - d ≤ s.wr + j; omega) | (show s.wr + j ≤ 32768; omega)) (by show (if 32768 = s.wr - d then 0 else 0 + (s.wr - d) * 1) = _; rw [if_neg (by omega)]; omega) (by simp) (by simp)) (TH.perm p1 ?_)))))))))))))))
  refine TH.oneW 15 (by kernel_rfl) rfl (r_copy (l := (min (s.wr + j - (s.wr - d)) (s.wr + n - (s.wr + j)))) (ds := (((xsM h d n).drop j).take (min (s.wr + j - (s.wr - d)) (s.wr + n - (s.wr + j)))).map u8) el_22 T7 T0 rfl (Rds.blk m0 (by simp only [List.length_map, List.length_take, List.length_drop, xsM_length]; omega) (by omega) (fun t x hx => copy_u8 hx (fun ht => copy_src (c := c) H h2 hd hdl (by omega) (by omega) (by have := hI2 c36'; omega) (by omega)))) (ones_map one_u8) (by omega)) ?_
  rintro _ w52 ⟨rfl, hS⟩
  replace hS := hS.imp (blk_eq rfl updl_hist)
  refine ⟨hS.only m1, THB.at hS ?_⟩
  refine TH.t 16 rfl (fun w h => h.only m1) (n_add ((s.wr + j)) ((min (s.wr + j - (s.wr - d)) (s.wr + n - (s.wr + j)))) 9223372036854775808 T15 T0) (TH.sub (.hd (.hd (.hd (.hd (.hd (.hd (.hd (.hd (.hd (.hd (.hd (.hd (.hd (.hd (.hd (.hd (.hd .u1))))))))))))))))) ?_)
  exact TH.t 17 rfl (fun w h => h.only m1) (r_asg T0) (TH.done (by kernel_rfl) (EX.sub (.hd .u17) (EX.bnormal (EX.fold (A' := (blk hb 32768 (fun jj => u8 ((updh hist s.wr (xsM h d (j + min (s.wr + j - (s.wr - d)) (s.wr + n - (s.wr + j))))) jj)))) a0 (blk_eq rfl (by exact copy_step (by omega) rfl)) (EX.perm p1 (EX.again ((j + min (s.wr + j - (s.wr - d)) (s.wr + n - (s.wr + j)), 2 * c)) (⟨by show j + _ ≤ n; omega, fun hlt => by have e2 := hI2 (by omega); show d * (2 * c) = d + (j + _); rw [show d * (2 * c) = 2 * (d * c) by rw [← Nat.mul_assoc, Nat.mul_comm d 2, Nat.mul_assoc], e2]; replace hlt : j + min (s.wr + j - (s.wr - d)) (s.wr + n - (s.wr + j)) < n := hlt; omega⟩) (by show n - (j + _) < n - j; omega) (.refl _) (.eq m0 (by first | rfl | (congr 1 <;> omega)) (.sl 1 6 rfl))))))))
 exact CT.sub .u1 (CT.exit (EX.then_exit (EX.then_exit (EX.out (EX.q (TL.m m5 (TL.m m1 (TL.c m1 (TL.f 1038 fo_98_1 m0 (TL.s (r_st (F' := D { s with hist := Hw hb, wr := s.wr + j }) Tryz.sizeOf3 (Dsat_wr ((s.wr + j))) a0 T0 T2 (by decide)) (TL.r .u4 (TL.m m0 (TL.m m3 (TL.val (n_sub ((s.wr + j)) s.wr 9223372036854775808 T1 T0) (TL.rm .h7 (TL.a m0 (TL.b (.hd (.tl (.tl (.tl (.hd (.hd .u1)))))) (CT.ret (EX.perm p1 (EX.perm p1 (EX.end_ (.inl rfl) (res1 Tryz.results117 m0) (fun _ hS => ⟨congrArg (fun z : Nat => Value.int .i64 (z : Int)) (by omega), by obtain rfl : j = n := (by omega); exact hS⟩))))))))))))))))))))))
theorem t118 (f hb : Nat) (s : DS) (hist : Nat → Nat) (d n : Nat) (h : List Nat) (H : Win hist s.wr s.full h) (hw : s.wr < 32768) (hd : 1 ≤ d) (hdl : d ≤ h.length) (hd2 : d ≤ 32768) (hn : n ≤ 258) (m : Nat) (hm : m = min n (32768 - s.wr)) {G : World} {R : List HProp} {w : World} (hS : Sat G w (blk f 1054 (D { s with hist := Hw hb }) :: blk hb 32768 (fun jj => u8 (hist jj)) :: R)) :
 CallsR Tryz.prog 118 #[(pt f 1037), (i64 d), (i64 n)] w (fun v w' => v = i64 m ∧ Sat G w' (blk f 1054 (D { s with hist := Hw hb, wr := s.wr + m }) :: blk hb 32768 (fun jj => u8 ((updh hist s.wr (xsM h d m)) jj)) :: R)) := by
 refine calls_in (n := 80) [(0, (pt f 1037)), (1, (i64 d)), (2, (i64 n))] Tryz.func118 rfl rfl hS args3 ?_
 refine CT.q (TL.val (r_asg .c) (TL.q (TL.m m1 (TL.c m0 (TL.f 1038 fo_98_1 m0 (TL.val (r_ld (v := (i64 s.wr)) Tryz.isAgg3 m0 T0 (by decide) (Dget_wr _)) (TL.a m0 (TL.r (.hd .u4) (TL.m m0 (TL.a m0 (TL.r (.hd .u1) (TL.m m0 (TL.m m5 (TL.val (r_sub (z := (((s.wr : Nat) : Int) - ((d : Nat) : Int))) T1 T0 (wi (by omega))) (TL.a m0 (TL.r (.hd (.tl (.tl (.tl (.hd (.hd (.hd (.hd .u1)))))))) (TL.m m1 (TL.m m6 (TL.val (n_add s.wr n 9223372036854775808 T1 T0) (TL.m m7 (TL.c m0 (TL.f 1037 fo_98_0 m0 (TL.val (r_ld (v := (Hw hb)) Tryz.isAgg22 m0 T0 (by decide) (Dget_hist _)) ?_)))))))))))))))))))))))
 refine TL.val (r_len Tryz.underlying22 T0) (TL.val (n_min ((s.wr + n)) 32768 T5 T0 rfl rfl) (TL.a m0 (TL.sub (.hd (.tl (.tl (.tl (.tl (.tl (.tl (.tl (.tl (.tl (.hd (.hd (.hd (.hd (.hd .u1))))))))))))))) (TL.b (.eq m0 (congrArg (fun z : Nat => Value.int .i64 (z : Int)) (show min (s.wr + n) 32768 = s.wr + m by omega)) (.cons m1 (.cons m2 (.cons m3 (.cons m4 (.cons m5 .nil)))))) (CT.cut (X := Nat × Nat × Nat) (fun gx => [(9, (i64 gx.2.2)), (8, (i64 (s.wr + gx.1))), (10, (i64 (s.wr + m))), (7, (i64 s.wr)), (6, (.int .i64 0)), (0, (pt f 1037))]) (fun gx => (blk f 1054 (D { s with hist := Hw hb })) :: blk hb 32768 (fun jj => u8 ((updh hist s.wr (xsM h d gx.1)) jj)) :: R) (fun gx => gx.1 ≤ m ∧ (gx.1 < m → gx.2.2 + d * gx.2.1 = s.wr + gx.1) ∧ s.wr ≤ gx.2.2 + d ∧ gx.2.2 ≤ s.wr ∧ (gx.1 < m → gx.2.2 + d ≤ s.wr + gx.1)) ?_ ?_)))))
 ·
  refine CT.q (TL.m m1 (TL.val (r_lss T0 .c) (TL.b (.hd .u1) (CT.ifd m0 (fun c29 => ?_) (fun c29 => ?_)))))
  ·
   have c29n : s.wr < d := by omega
   refine CT.y (TL.m m1 (TL.m m6 (TL.c m0 (TL.f 1037 fo_98_0 m0 (TL.val (r_ld (v := (Hw hb)) Tryz.isAgg22 m0 T0 (by decide) (Dget_hist _)) (TL.val (r_len Tryz.underlying22 T0) (TL.val (r_add (z := (((s.wr + 32768 - d) : Nat) : Int)) T5 T0 (wi (by omega))) (TL.rm .h8 (TL.a m0 (TL.b (.hd .u7) (CT.seq (CT.held [(blk f 1054 (D { s with hist := Hw hb }))] fm ?_))))))))))))
   refine TH.t 0 rfl (fun w h => h.only m0) (r_move T2) (TH.t 1 rfl (fun w h => h.only m0) (r_move T6) (TH.t 2 rfl (fun w h => h.only m0) (r_nil T0) (TH.t 3 rfl (fun w h => h.only m0) (r_fa (off' := 1037) fo_98_0 T0) (TH.t 4 rfl (fun w h => h.only m0) (r_ld (v := (Hw hb)) Tryz.isAgg22 m0 T0 (by decide) (Dget_hist _)) (TH.t 5 rfl (fun w h => h.only m0) (r_move T7) (TH.t 6 rfl (fun w h => h.only m0) (r_move T7) (TH.t 7 rfl (fun w h => h.only m0) (r_slice (off' := s.wr) (m := (s.wr + m) - s.wr) (c' := 32768 - s.wr) Tryz.underlying22 Tryz.sizeOf5 T2 (.so (j := s.wr) T1 rfl) (.so (j := (s.wr + m)) T0 rfl) (by first | (show s.wr ≤ s.wr + m; omega) | (show s.wr + m ≤ 32768; omega)) (by first | (show s.wr ≤ s.wr + m; omega) | (show s.wr + m ≤ 32768; omega)) (by show (if 32768 = s.wr then 0 else 0 + s.wr * 1) = _; rw [if_neg (by omega)]; omega) (by simp) (by simp)) (TH.t 8 rfl (fun w h => h.only m0) (r_move T13) (TH.t 9 rfl (fun w h => h.only m0) (r_nil T0) (TH.t 10 rfl (fun w h => h.only m0) (r_fa (off' := 1037) fo_98_0 T0) (TH.t 11 rfl (fun w h => h.only m0) (r_ld (v := (Hw hb)) Tryz.isAgg22 m0 T0 (by decide) (Dget_hist _)) (TH.t 12 rfl (fun w h => h.only m0) (r_move T12) (TH.t 13 rfl (fun w h => h.only m0) (r_slice (off' := (s.wr + 32768 - d)) (m := 32768 - (s.wr + 32768 - d)) (c' := 32768 - (s.wr + 32768 - d)) Tryz.underlying22 Tryz.sizeOf5 T1 (.so (j := (s.wr + 32768 - d)) T0 rfl) .no (by first | (show s.wr + 32768 - d ≤ 32768; omega) | (show 32768 ≤ 32768; omega)) (by first | (show s.wr + 32768 - d ≤ 32768; omega) | (show 32768 ≤ 32768; omega)) (by show (if 32768 = s.wr + 32768 - d then 0 else 0 + (s.wr + 32768 - d) * 1) = _; rw [if_neg (by omega)]; omega) (by simp) (by simp)) (TH.perm p1 ?_))))))))))))))
   refine TH.oneW 14 (by kernel_rfl) rfl (r_copy (l := (min (32768 - (s.wr + 32768 - d)) (s.wr + m - s.wr))) (ds := (((xsM h d m).drop 0).take (min (32768 - (s.wr + 32768 - d)) (s.wr + m - s.wr))).map u8) el_22 T6 T0 rfl (Rds.blk m0 (by simp only [List.length_map, List.length_take, List.length_drop, xsM_length]; omega) (by omega) (fun t x hx => copy_u8 hx (fun ht => by rw [Nat.zero_add]; exact copy_wrap H c29n hd2 hdl (by omega) (by omega)))) (ones_map one_u8) (by omega)) ?_
   rintro _ w51 ⟨rfl, hS⟩
   replace hS := hS.imp (blk_eq rfl updl_hist)
   refine ⟨hS.only m1, THB.at hS ?_⟩
   refine TH.t 15 rfl (fun w h => h.only m1) (n_add s.wr ((min (32768 - (s.wr + 32768 - d)) (s.wr + m - s.wr))) 9223372036854775808 T14 T0) (TH.sub (.hd (.hd (.hd (.hd (.hd (.hd (.hd (.hd (.hd (.hd (.hd (.hd (.hd (.hd (.hd (.hd (.hd (.hd .u1)))))))))))))))))) ?_)
   exact TH.t 16 rfl (fun w h => h.only m1) (r_asg T0) (TH.done (by kernel_rfl) (EX.sub (.hd .u16) (EX.seq (CT.region (TL.rm .h1 (TL.val (r_asg .c) (TL.nil (EX.fold (A' := (blk hb 32768 (fun jj => u8 ((updh hist s.wr (xsM h d (min (d - s.wr) m))) jj)))) a0 (blk_eq rfl (by exact wrap_step (j' := min (d - s.wr) m) (n := m) ⟨by omega, by omega⟩)) (EX.perm p1 (EX.meet ((min (d - s.wr) m, 1, 0)) (⟨Nat.min_le_right _ _, fun hlt => by show 0 + d * 1 = s.wr + min (d - s.wr) m; replace hlt : min (d - s.wr) m < m := hlt; omega, by show s.wr ≤ 0 + d; omega, Nat.zero_le _, fun hlt => by show 0 + d ≤ s.wr + min (d - s.wr) m; replace hlt : min (d - s.wr) m < m := hlt; omega⟩) (.refl _) (.eq m0 (by first | rfl | (congr 1 <;> omega) | (show Value.int .i64 _ = i64 (s.wr - d); congr 1; omega)) (.eq m1 (by first | rfl | (congr 1 <;> omega) | (show Value.int .i64 _ = i64 (s.wr - d); congr 1; omega)) (.sl 2 4 rfl)))))))))))))
  have c29n : d ≤ s.wr := by omega
  exact CT.z (EX.fold (A' := (blk hb 32768 (fun jj => u8 ((updh hist s.wr (xsM h d 0)) jj)))) a1 (blk_eq rfl (by rw [show xsM h d 0 = [] from List.length_eq_zero_iff.1 (xsM_length h d 0), updh_nil])) (EX.meet ((0, 1, s.wr - d)) (⟨Nat.zero_le _, fun _ => by show s.wr - d + d * 1 = s.wr + 0; omega, by show s.wr ≤ s.wr - d + d; omega, Nat.sub_le _ _, fun _ => by show s.wr - d + d ≤ s.wr + 0; omega⟩) (.refl _) (.eq m1 (by first | rfl | (congr 1 <;> omega) | (show Value.int .i64 _ = i64 (s.wr - d); congr 1; omega)) (.eq m2 (by first | rfl | (congr 1 <;> omega) | (show Value.int .i64 _ = i64 (s.wr - d); congr 1; omega)) (.cons m0 (.sl 3 3 rfl))))))
 rintro ⟨j, c, src⟩ ⟨hI1, hI2, hI3, hI4, hI5⟩
 replace hI1 : j ≤ m := hI1
 replace hI2 : j < m → src + d * c = s.wr + j := hI2
 replace hI3 : s.wr ≤ src + d := hI3
 replace hI4 : src ≤ s.wr := hI4
 replace hI5 : j < m → src + d ≤ s.wr + j := hI5
 refine CT.seq (CT.block (CT.loop (X := Nat × Nat) (fun gx => [(8, (i64 (s.wr + gx.1))), (9, (i64 src)), (10, (i64 (s.wr + m))), (7, (i64 s.wr)), (6, (.int .i64 0)), (0, (pt f 1037))]) (fun gx => (blk f 1054 (D { s with hist := Hw hb })) :: blk hb 32768 (fun jj => u8 ((updh hist s.wr (xsM h d gx.1)) jj)) :: R) (fun gx => gx.1 ≤ m ∧ (gx.1 < m → src + d * gx.2 = s.wr + gx.1) ∧ (gx.1 < m → src + d ≤ s.wr + gx.1)) (fun gx => m - gx.1) ((j, c)) (⟨hI1, hI2, hI5⟩) (.refl _) (.cons m1 (.cons m0 (.sl 2 4 rfl))) ?_))
 rintro ⟨j2, c2⟩ ⟨hJ1, hJ2, hJ3⟩
 replace hJ1 : j2 ≤ m := hJ1
 replace hJ2 : j2 < m → src + d * c2 = s.wr + j2 := hJ2
 replace hJ3 : j2 < m → src + d ≤ s.wr + j2 := hJ3
 refine CT.seq (CT.q (TL.m m0 (TL.m m3 (TL.val (n_lss ((s.wr + j2)) ((s.wr + m)) T1 T0) (TL.b (.hd .u2) (CT.ifd m0 (fun c55 => ?_) (fun c55 => ?_)))))))
 ·
  have c55' : j2 < m := by omega
  have e3 := hJ2 c55'
  have e4 := hJ3 c55'
  refine CT.z (EX.seq (CT.block (CT.held [(blk f 1054 (D { s with hist := Hw hb }))] fm ?_)))
  refine TH.t 0 rfl (fun w h => h.only m0) (r_move T0) (TH.t 1 rfl (fun w h => h.only m0) (r_move T6) (TH.t 2 rfl (fun w h => h.only m0) (r_nil T0) (TH.t 3 rfl (fun w h => h.only m0) (r_fa (off' := 1037) fo_98_0 T0) (TH.t 4 rfl (fun w h => h.only m0) (r_ld (v := (Hw hb)) Tryz.isAgg22 m0 T0 (by decide) (Dget_hist _)) (TH.t 5 rfl (fun w h => h.only m0) (r_move T5) (TH.t 6 rfl (fun w h => h.only m0) (r_move T8) (TH.t 7 rfl (fun w h => h.only m0) (r_slice (off' := (s.wr + j2)) (m := (s.wr + m) - (s.wr + j2)) (c' := 32768 - (s.wr + j2)) Tryz.underlying22 Tryz.sizeOf5 T2 (.so (j := (s.wr + j2)) T1 rfl) (.so (j := (s.wr + m)) T0 rfl) (by first | (show s.wr + j2 ≤ s.wr + m; omega) | (show s.wr + m ≤ 32768; omega)) (by first | (show s.wr + j2 ≤ s.wr + m; omega) | (show s.wr + m ≤ 32768; omega)) (by show (if 32768 = s.wr + j2 then 0 else 0 + (s.wr + j2) * 1) = _; rw [if_neg (by omega)]; omega) (by simp) (by simp)) (TH.t 8 rfl (fun w h => h.only m0) (r_move T13) (TH.t 9 rfl (fun w h => h.only m0) (r_nil T0) (TH.t 10 rfl (fun w h => h.only m0) (r_fa (off' := 1037) fo_98_0 T0) (TH.t 11 rfl (fun w h => h.only m0) (r_ld (v := (Hw hb)) Tryz.isAgg22 m0 T0 (by decide) (Dget_hist _)) (TH.t 12 rfl (fun w h => h.only m0) (r_move T13) (TH.t 13 rfl (fun w h => h.only m0) (r_move T13) (TH.t 14 rfl (fun w h => h.only m0) (r_slice (off' := src) (m := (s.wr + j2) - src) (c' := 32768 - src) Tryz.underlying22 Tryz.sizeOf5 T2 (.so (j := src) T1 rfl) (.so (j := (s.wr + j2)) T0 rfl) (by first | (show src ≤ s.wr + j2; omega) | (show s.wr + j2 ≤ 32768; omega)) (by first | (show src ≤ s.wr + j2; omega) | (show s.wr + j2 ≤ 32768; omega)) (by show (if 32768 = src then 0 else 0 + src * 1) = _; rw [if_neg (by omega)]; omega) (by simp) (by simp)) (TH.perm p1 ?_)))))))))))))))
  refine TH.oneW 15 (by kernel_rfl) rfl (r_copy (l := (min (s.wr + j2 - src) (s.wr + m - (s.wr + j2)))) (ds := (((xsM h d m).drop j2).take (min (s.wr + j2 - src) (s.wr + m - (s.wr + j2)))).map u8) el_22 T7 T0 rfl (Rds.blk m0 (by simp only [List.length_map, List.length_take, List.length_drop, xsM_length]; omega) (by omega) (fun t x hx => copy_u8 hx (fun ht => copy_src (c := c2) H (by omega) hd hdl (by omega) hI3 (hJ2 c55') (by omega)))) (ones_map one_u8) (by omega)) ?_
  rintro _ w71 ⟨rfl, hS⟩
  replace hS := hS.imp (blk_eq rfl updl_hist)
  refine ⟨hS.only m1, THB.at hS ?_⟩
  refine TH.t 16 rfl (fun w h => h.only m1) (n_add ((s.wr + j2)) ((min (s.wr + j2 - src) (s.wr + m - (s.wr + j2)))) 9223372036854775808 T15 T0) (TH.sub (.hd (.hd (.hd (.hd (.hd (.hd (.hd (.hd (.hd (.hd (.hd (.hd (.hd (.hd (.hd (.hd (.hd .u1))))))))))))))))) ?_)
  exact TH.t 17 rfl (fun w h => h.only m1) (r_asg T0) (TH.done (by kernel_rfl) (EX.sub (.hd .u17) (EX.bnormal (EX.fold (A' := (blk hb 32768 (fun jj => u8 ((updh hist s.wr (xsM h d (j2 + min (s.wr + j2 - src) (s.wr + m - (s.wr + j2))))) jj)))) a0 (blk_eq rfl (by exact copy_step (by omega) rfl)) (EX.perm p1 (EX.again ((j2 + min (s.wr + j2 - src) (s.wr + m - (s.wr + j2)), 2 * c2)) (⟨by show j2 + _ ≤ m; omega, fun hlt => by have e2 := hJ2 (by omega); replace hlt : j2 + min (s.wr + j2 - src) (s.wr + m - (s.wr + j2)) < m := hlt; exact cstep hJ1 e2 hlt, fun hlt => by have e2 := hJ3 (by omega); show src + d ≤ s.wr + (j2 + _); omega⟩) (by show m - (j2 + _) < m - j2; omega) (.refl _) (.eq m0 (by first | rfl | (congr 1 <;> omega) | (show Value.int .i64 _ = i64 (s.wr - d); congr 1; omega)) (.sl 1 5 rfl))))))))
 exact CT.sub .u1 (CT.exit (EX.then_exit (EX.then_exit (EX.out (EX.q (TL.m m5 (TL.m m1 (TL.c m1 (TL.f 1038 fo_98_1 m0 (TL.s (r_st (F' := D { s with hist := Hw hb, wr := s.wr + j2 }) Tryz.sizeOf3 (Dsat_wr ((s.wr + j2))) a0 T0 T2 (by decide)) (TL.r .u4 (TL.m m0 (TL.m m4 (TL.val (n_sub ((s.wr + j2)) s.wr 9223372036854775808 T1 T0) (TL.rm .h7 (TL.a m0 (TL.b (.hd .u3) (CT.ret (EX.perm p1 (EX.perm p1 (EX.end_ (.inl rfl) (res1 Tryz.results118 m0) (fun _ hS => ⟨congrArg (fun z : Nat => Value.int .i64 (z : Int)) (by omega), by obtain rfl : j2 = m := (by omega); exact hS⟩))))))))))))))))))))))
end Go.Eng
namespace Go.Eng
open Go Go.Proofs Go.Infl
def rev8 : ByteArray := ⟨#[0, 128, 64, 192, 32, 160, 96, 224, 16, 144, 80, 208, 48, 176, 112, 240, 8, 136, 72, 200, 40, 168, 104, 232, 24, 152, 88, 216, 56, 184, 120, 248, 4, 132, 68, 196, 36, 164, 100, 228, 20, 148, 84, 212, 52, 180, 116, 244, 12, 140, 76, 204, 44, 172, 108, 236, 28, 156, 92, 220, 60, 188, 124, 252, 2, 130, 66, 194, 34, 162, 98, 226, 18, 146, 82, 210, 50, 178, 114, 242, 10, 138, 74, 202, 42, 170, 106, 234, 26, 154, 90, 218, 58, 186, 122, 250, 6, 134, 70, 198, 38, 166, 102, 230, 22, 150, 86, 214, 54, 182, 118, 246, 14, 142, 78, 206, 46, 174, 110, 238, 30, 158, 94, 222, 62, 190, 126, 254, 1, 129, 65, 193, 33, 161, 97, 225, 17, 145, 81, 209, 49, 177, 113, 241, 9, 137, 73, 201, 41, 169, 105, 233, 25, 153, 89, 217, 57, 185, 121, 249, 5, 133, 69, 197, 37, 165, 101, 229, 21, 149, 85, 213, 53, 181, 117, 245, 13, 141, 77, 205, 45, 173, 109, 237, 29, 157, 93, 221, 61, 189, 125, 253, 3, 131, 67, 195, 35, 163, 99, 227, 19, 147, 83, 211, 51, 179, 115, 243, 11, 139, 75, 203, 43, 171, 107, 235, 27, 155, 91, 219, 59, 187, 123, 251, 7, 135, 71, 199, 39, 167, 103, 231, 23, 151, 87, 215, 55, 183, 119, 247, 15, 143, 79, 207, 47, 175, 111, 239, 31, 159, 95, 223, 63, 191, 127, 255]⟩
theorem rev8_at : ∀ i, i < 256 → rev8[i]? = some (UInt8.ofNat (rv 8 i)) := by decide +kernel
theorem r_rev8 {G : World} {ρ : Env} {n : Nat} {L : List HProp} {d : Option Tmp} {ty : TypeId} {pos : String} {af : Array Edge} {g : Option (Nat × Bool)} {y : Operand} {k : IntKind} {j : Int} {i : Nat} (hy : OV ρ y (.int k j)) (hj : j = (i : Int)) (hi : i < 256) :
 Run Tryz.prog G ρ n L ⟨d, .index 9 (.const (.string rev8)) y, ty, pos, af, g⟩ (u8 (rv 8 i)) := by
 have := r_idx (P := Tryz.prog) (G := G) (n := n) (L := L) (d := d) (ty := ty) (pos := pos) (af := af) (g := g) Tryz.underlying9 (OV.c (ρ := ρ) (v := .string rev8)) hy hj (rev8_at i hi)
 have e : ((UInt8.ofNat (rv 8 i)).toNat : Int) = ((rv 8 i : Nat) : Int) := by
  rw [UInt8.toNat_ofNat']
  have := rv_lt 8 i
  omega
 rw [e] at this
 exact this
theorem rev16 {x : Nat} : rv 8 (x / 2 ^ 8) ||| rv 8 (x &&& 255) * 2 ^ 8 = rv 16 x := by
 apply Nat.eq_of_testBit_eq
 intro i
 rw [Nat.testBit_or, Nat.testBit_mul_two_pow, rv_bit, rv_bit, rv_bit, Nat.testBit_div_two_pow, show (255 : Nat) = 2 ^ 8 - 1 from rfl, Nat.and_two_pow_sub_one_eq_mod, Nat.testBit_mod_two_pow]
 by_cases h1 : i < 8
 ·
  have h2 : ¬ 8 ≤ i := by omega
  have h3 : i < 16 := by omega
  simp only [h1, h2, h3, decide_true, decide_false, Bool.true_and, Bool.false_and, Bool.or_false]
  rw [show 8 - 1 - i + 8 = 16 - 1 - i by omega]
 by_cases h3 : i < 16
 ·
  have h2 : 8 ≤ i := by omega
  have h4 : i - 8 < 8 := by omega
  have h5 : 8 - 1 - (i - 8) < 8 := by omega
  simp only [h1, h2, h3, h4, h5, decide_true, decide_false, Bool.true_and, Bool.false_and, Bool.false_or]
  rw [show 8 - 1 - (i - 8) = 16 - 1 - i by omega]
 have h4 : ¬ i - 8 < 8 := by omega
 simp only [h1, h3, h4, decide_false, Bool.false_and, Bool.and_false, Bool.or_false]
theorem rv_shr {n m x : Nat} (h : n ≤ m) : rv m x / 2 ^ (m - n) = rv n x := by
 apply Nat.eq_of_testBit_eq
 intro i
 rw [Nat.testBit_div_two_pow, rv_bit, rv_bit]
 by_cases hi : i < n
 ·
  have h1 : i + (m - n) < m := by omega
  simp only [hi, h1, decide_true, Bool.true_and]
  rw [show m - 1 - (i + (m - n)) = n - 1 - i by omega]
 have h1 : ¬ i + (m - n) < m := by omega
 simp only [hi, h1, decide_false, Bool.false_and]
theorem t115 (x : Nat) (hx : x < 256) {G : World} {R : List HProp} {w : World} (hS : Sat G w (R)) :
 CallsR Tryz.prog 115 #[(u8 x)] w (fun v w' => v = u8 (rv 8 x) ∧ Sat G w' R) := by
 refine calls_in (n := 5) [(0, (u8 x))] Tryz.func115 rfl rfl hS args1 ?_
 exact CT.q (TL.val (r_asg .c) (TL.q (TL.m m1 (TL.val (r_rev8 T0 (i := x) rfl hx) (TL.rm .h2 (TL.a m0 (TL.b (.hd .u3) (CT.ret (EX.end_ (.inl rfl) (res1 Tryz.results115 m0) (fun _ hS => ⟨rfl, hS⟩))))))))))
theorem t127 (x : Nat) (hx : x < 65536) {G : World} {R : List HProp} {w : World} (hS : Sat G w (R)) :
 CallsR Tryz.prog 127 #[(.int .u16 ((x : Nat) : Int))] w (fun v w' => v = .int .u16 ((rv 16 x : Nat) : Int) ∧ Sat G w' R) := by
 refine calls_in (n := 13) [(0, (.int .u16 ((x : Nat) : Int)))] Tryz.func127 rfl rfl hS args1 ?_
 refine CT.q (TL.val (r_asg .c) (TL.e (CT.seq (CT.still fm (by kernel_rfl) ?_))))
 exact TS.m m1 (TS.val (n_shr x 8 T0 .c rfl rfl (by decide)) (TS.val (r_rev8 T0 (i := (x / 2 ^ 8)) rfl (by omega)) (TS.val (n_conv ((rv 8 ((x / 2 ^ 8)))) 65536 ⟨_, Tryz.underlying5⟩ Tryz.underlying159 T0 rfl (by have := rv_lt 8 (x / 2 ^ 8); omega)) (TS.m m5 (TS.val (n_and x 255 65536 T0 .c rfl rfl (by omega) (by omega)) (TS.val (r_rev8 T0 (i := (x &&& 255)) rfl (by rw [show (255 : Nat) = 2 ^ 8 - 1 from rfl, Nat.and_two_pow_sub_one_eq_mod]; omega)) (TS.val (n_conv ((rv 8 ((x &&& 255)))) 65536 ⟨_, Tryz.underlying5⟩ Tryz.underlying159 T0 rfl (by have := rv_lt 8 (x &&& 255); omega)) (TS.val (n_shl ((rv 8 ((x &&& 255)))) 8 65536 T0 .c rfl rfl (by decide) (by have := rv_lt 8 (x &&& 255); omega)) (TS.val (n_or ((rv 8 ((x / 2 ^ 8)))) (((rv 8 ((x &&& 255))) * 2 ^ 8)) 65536 T5 T0 rfl rfl (by have := rv_lt 8 (x &&& 255); have := rv_lt 8 (x / 2 ^ 8); omega) (by have := rv_lt 8 (x &&& 255); have := rv_lt 8 (x / 2 ^ 8); omega)) (TS.rm .h10 (TS.val (r_asg T0) (TS.nil (TL.b (.hd .u11) (CT.ret (EX.end_ (.inl rfl) (res1 Tryz.results127 m0) (fun _ hS => ⟨congrArg (fun z : Nat => Value.int .u16 (z : Int)) rev16, hS⟩))))))))))))))))
end Go.Eng
namespace Go.Eng
open Go Go.Proofs Go.Infl
theorem and31 {x : Nat} (h : x < 32) : x &&& 31 = x := by rw [show (31 : Nat) = 2 ^ 5 - 1 from rfl, Nat.and_two_pow_sub_one_eq_mod]; omega
theorem and15 (x : Nat) : x &&& 15 = x % 16 := by rw [show (15 : Nat) = 2 ^ 4 - 1 from rfl, Nat.and_two_pow_sub_one_eq_mod]
def TRd (f : Nat) (H : Nat → Value) (A : HProp) (b off : Nat) (T : Nat → Value) : Prop := ∀ {G w : World} {L : List HProp} (s' : DS), s'.H = H → blk f 1054 (D s') ∈ L → A ∈ L → Sat G w L → ∀ j, j < 515 → w.cell? ⟨b, off + j, none⟩ = some (T j)
section
variable {f b off : Nat} {H : Nat → Value} {A : HProp} {T : Nat → Value} {ls : List Nat} {t : TD} {G w : World} {L R : List HProp} {s' : DS}
theorem TRd.c0 (h : TRd f H A b off T) (ht : TDok ls t T) (e : s'.H = H) (m : blk f 1054 (D s') ∈ L) (m2 : A ∈ L) (hS : Sat G w L) : w.cell? ⟨b, off, none⟩ = some (i64 t.mn) :=
 (h s' e m m2 hS 0 (by decide)).trans (congrArg some (ht.cells 0 (by decide)))
theorem TRd.cC (h : TRd f H A b off T) (ht : TDok ls t T) (e : s'.H = H) (m : blk f 1054 (D s') ∈ L) (m2 : A ∈ L) (hS : Sat G w L) {x : Nat} (hx : x < 512) : w.cell? ⟨b, off + 1 + x, none⟩ = some (u32 (t.C x)) := by
 have := (h s' e m m2 hS (1 + x) (by omega)).trans (congrArg some (ht.cells (1 + x) (by omega)))
 rw [hc_getC hx, ← Nat.add_assoc] at this
 exact this
theorem TRd.cL (h : TRd f H A b off T) (ht : TDok ls t T) (e : s'.H = H) (m : blk f 1054 (D s') ∈ L) (m2 : A ∈ L) (hS : Sat G w L) : w.cell? ⟨b, off + 513, none⟩ = some t.lv :=
 (h s' e m m2 hS 513 (by decide)).trans (congrArg some (ht.cells 513 (by decide)))
theorem TRd.cM (h : TRd f H A b off T) (ht : TDok ls t T) (e : s'.H = H) (m : blk f 1054 (D s') ∈ L) (m2 : A ∈ L) (hS : Sat G w L) : w.cell? ⟨b, off + 514, none⟩ = some (u32 (2 ^ t.e - 1)) :=
 (h s' e m m2 hS 514 (by decide)).trans (congrArg some (ht.cells 514 (by decide)))
theorem CT.lnks {P : Program} {ρ : Env} {n : Nat} {Q : Exit → Act → World → Prop} {c : Code} (hnl : t.nl ≠ 0) (k : ∀ lb bs, t.lv = .slice (some ⟨lb, 0, none⟩) t.nl t.nl → CT P c Q ρ n G (blk lb t.nl (fun v => .slice (some ⟨bs v, 0, none⟩) (2 ^ t.e) (2 ^ t.e)) :: LM (List.range t.nl) (2 ^ t.e) bs t.LK :: R)) : CT P c Q ρ n G (Lnks t :: R) := fun w a hS ha => by
 obtain ⟨m, hm, hle, hR⟩ := hS.sat
 rcases hm with h | ⟨lb, bs, hlv, hm⟩
 ·
  exact absurd h hnl
 exact k lb bs hlv w a (Sat.unsep (Ls := [_, _]) { hS with sat := ⟨m, hm, hle, hR⟩ }) ha
theorem lnks_close {lb : Nat} {bs : Nat → Nat} (hlv : t.lv = .slice (some ⟨lb, 0, none⟩) t.nl t.nl) (h : Sat G w (blk lb t.nl (fun v => .slice (some ⟨bs v, 0, none⟩) (2 ^ t.e) (2 ^ t.e)) :: LM (List.range t.nl) (2 ^ t.e) bs t.LK :: R)) : Sat G w (Lnks t :: R) :=
 (Sat.resep (Ls := [_, _]) h).imp fun m hm => .inr ⟨lb, bs, hlv, hm⟩
theorem Sat.lmCell {l : List Nat} {ne v o : Nat} {bs : Nat → Nat} {LK : Nat → Nat → Nat} (hm : LM l ne bs LK ∈ L) (h : Sat G w L) (hv : v ∈ l) (ho : o < ne) : w.cell? ⟨bs v, o, none⟩ = some (u32 (LK v o)) := by
 obtain ⟨m, h1, h2⟩ := h.obj hm
 obtain ⟨m', h3, h4⟩ := SatL.get (List.mem_map.2 ⟨v, hv, rfl⟩) h1
 obtain ⟨cs, T, h5, h6, h7⟩ := h3
 have := (h2 _ _ (h4 _ _ h5)).2
 simp [World.cell?, this, h7 o ho]
end
theorem t112 {f r i at_ k b off : Nat} {B : List Bool} {s : DS} {A : HProp} {t : TD} {T : Nat → Value} {ls : List Nat} {rest : List Bool} (hT : TRd f s.H A b off T) (ht : TDok ls t T) (hok : LOk ls k) (hd : B.drop at_ = symB ls k ++ rest) (hk : Held B at_ i s.b s.nb) (hnb : s.nb ≤ 22) (hmn : t.mn ≤ B.length - at_) (hBl : B.length < 1099511627776) (hil : i ≤ (pack B).length) (hro : s.roff = i) (hr : s.r = rif r) {G : World} {R : List HProp} {w : World}
 (hS : Sat G w (blk f 1054 (D s) :: Br r B i :: A :: Lnks t :: R)) : CallsR Tryz.prog 112 #[pt f 0, pt b off] w (fun v w' => ∃ i' b' nb', v = .tuple #[i64 k, .nilIface] ∧ Held B (at_ + ls.getD k 0) i' b' nb' ∧ nb' + ls.getD k 0 ≤ max s.nb (max t.mn (ls.getD k 0) + 7) ∧ i' ≤ (pack B).length ∧
  Sat G w' (blk f 1054 (D { s with r := rif r, roff := i', b := b', nb := nb' }) :: Br r B i' :: A :: Lnks t :: R)) := by
 have hlen := congrArg List.length hd
 rw [List.length_drop, List.length_append, symB_length] at hlen
 have hpl := pack_length B
 have hm15 := ht.m15
 have hl15 := hok.2.2
 have hl0 := hok.2.1
 obtain ⟨M, hM⟩ : ∃ M, M = max s.nb (max t.mn (ls.getD k 0) + 7) := ⟨_, rfl⟩
 have hM22 : M ≤ 22 := by omega
 have hb0 : s.b < 4294967296 := Nat.lt_of_lt_of_le hk.lt (Nat.pow_le_pow_right (by decide) (show s.nb ≤ 32 by omega))
 have hs : s = { s with r := rif r, roff := i } := by cases s; simp_all
 replace hS := hS.D hs
 refine calls_in (n := 137) [(0, (pt f 0)), (1, (pt b off))] Tryz.func112 rfl rfl hS args2 ?_
 refine CT.q (TL.val (r_asg .c) (TL.val (r_asg .c) (TL.q (TL.m m3 (TL.c m0 (TL.f off fo_94_0 m0 (TL.val (r_ldc (v := (i64 t.mn)) Tryz.isAgg3 T0 (fun w hS => hT.c0 ht (by exact rfl) m0 m2 hS)) (TL.val (n_conv t.mn 18446744073709551616 ⟨_, Tryz.underlying3⟩ Tryz.underlying90 T0 rfl (by have := ht.m15; omega)) (TL.a m0 (TL.b (.hd .u5) (CT.seq (CT.still fm (by kernel_rfl) ?_))))))))))))
 refine TS.m m3 (TS.c m0 (TS.f 4 fo_103_4 m0 (TS.val (r_ld (v := (u64 s.nb)) Tryz.isAgg90 m0 T0 (by decide) (Dget_nb _)) (TS.m m7 (TS.c m0 (TS.f 3 fo_103_3 m0 (TS.val (r_ld (v := (u32 s.b)) Tryz.isAgg89 m0 T0 (by decide) (Dget_b _)) (TS.val (r_asg T4) (TS.val (r_asg T1) (TS.nil (TL.b (.hd (.hd .u8)) (CT.block (CT.loop (X := Nat × Nat × Nat × Nat) (fun gx => [(8, (u32 gx.2.1)), (7, (u64 gx.2.2.1)), (6, (u64 gx.2.2.2)), (0, (pt f 0)), (1, (pt b off))]) (fun gx => (blk f 1054 (D { s with r := rif r, roff := gx.1 })) :: Br r B gx.1 :: A :: Lnks t :: R) (fun gx => Held B at_ gx.1 gx.2.1 gx.2.2.1 ∧ gx.2.2.1 ≤ M ∧ gx.2.2.2 ≤ max t.mn (ls.getD k 0) ∧ gx.1 ≤ (pack B).length) (fun gx => 2 * (100 - gx.2.2.1) + (if gx.2.2.2 ≤ gx.2.2.1 then 1 else 0)) ((i, s.b, s.nb, t.mn)) (⟨hk, by rw [hM]; exact Nat.le_max_left _ _, Nat.le_max_left _ _, hil⟩) (.refl _) (.cons m0 (.cons m1 (.cons m2 (.cons m5 (.cons m6 .nil))))) ?_)))))))))))))
 rintro ⟨i2, b2, n2, nn⟩ ⟨hI1, hI2, hI3, hI4⟩
 replace hI1 : Held B at_ i2 b2 n2 := hI1
 replace hI2 : n2 ≤ M := hI2
 replace hI3 : nn ≤ max t.mn (ls.getD k 0) := hI3
 replace hI4 : i2 ≤ (pack B).length := hI4
 refine CT.block (CT.seq (CT.block (CT.loop (X := Nat × Nat × Nat) (fun gx => [(8, (u32 gx.2.1)), (7, (u64 gx.2.2)), (6, (u64 nn)), (0, (pt f 0)), (1, (pt b off))]) (fun gx => (blk f 1054 (D { s with r := rif r, roff := gx.1 })) :: Br r B gx.1 :: A :: Lnks t :: R) (fun gx => Held B at_ gx.1 gx.2.1 gx.2.2 ∧ gx.2.2 ≤ M ∧ n2 ≤ gx.2.2 ∧ gx.1 ≤ (pack B).length) (fun gx => 100 - gx.2.2) ((i2, b2, n2)) (⟨hI1, hI2, Nat.le_refl _, hI4⟩) (.refl _) (.sl 0 5 rfl) ?_)))
 rintro ⟨i3, b3, n3⟩ ⟨hJ1, hJ2, hJ3, hJ4⟩
 replace hJ1 : Held B at_ i3 b3 n3 := hJ1
 replace hJ2 : n3 ≤ M := hJ2
 replace hJ3 : n2 ≤ n3 := hJ3
 replace hJ4 : i3 ≤ (pack B).length := hJ4
 have hj1 := hJ1.1
 have hb3 : b3 < 4294967296 := Nat.lt_of_lt_of_le hJ1.lt (Nat.pow_le_pow_right (by decide) (show n3 ≤ 32 by omega))
 have hb8 : byteAt B i3 * 2 ^ n3 < 4294967296 := shl_lt (by omega)
 have hbl := byteAt_lt B i3
 refine CT.seq (CT.q (TL.m m1 (TL.m m3 (TL.val (n_lss n3 nn T1 T0) (TL.b (.hd .u2) (CT.ifd m0 (fun c27 => ?_) (fun c27 => ?_)))))))
 ·
  refine CT.z (EX.seq (CT.block (CT.q (TL.m m3 (TL.c m0 (TL.f 0 fo_103_0 m0 (TL.val (r_ld (v := (rif r)) Tryz.isAgg87 m0 T0 (by decide) (Dget_r _)) (TL.perm p1 (TL.call (r_inv ce_147 T0 (mt_49_ReadByte _) .nil) (fun w hS => t147 r i3 B (by omega) (by omega) hS) ?_)))))))))
  rintro _ w33 ⟨rfl, hS⟩
  refine TW.at hS (TL.m m0 (TL.val (r_ext T0) (TL.val (r_ext T1) (TL.a m1 (TL.a m1 (TL.b (.hd (.hd .u8)) (CT.seq (CT.q (TL.m m0 (TL.val (r_nen Tryz.underlying82 T0) (TL.b (.hd .u1) (CT.iff_ m0 ?_))))))))))))
  refine CT.z (EX.q (TL.m m5 (TL.c m0 (TL.f 2 fo_103_2 m0 (TL.val (r_ld (v := (i64 i3)) Tryz.isAgg2 m1 T0 (by decide) (Dget_roff _)) (TL.val (n_add i3 1 9223372036854775808 T0 .c) (TL.c m4 (TL.f 2 fo_103_2 m0 (TL.s (r_st (F' := D { s with r := rif r, roff := i3 + 1 }) Tryz.sizeOf2 (Dsat_roff ((i3 + 1))) a1 T0 T2 (by decide)) (TL.r .u7 (TL.m m2 (TL.m m2 (TL.val (n_conv ((byteAt B i3)) 4294967296 ⟨_, Tryz.underlying5⟩ Tryz.underlying89 T0 rfl (by omega)) (TL.m m6 (TL.val (n_and n3 31 18446744073709551616 T0 .c rfl rfl (by omega) (by omega)) (TL.sub (.eq m0 (congrArg (fun z : Nat => Value.int .u64 (z : Int)) (and31 (by omega))) (.cons m1 (.cons m2 (.cons m3 (.cons m4 (.cons m5 (.cons m6 (.cons m7 (.cons m8 (.cons m9 (.cons m10 (.cons m11 .nil)))))))))))) (TL.val (n_shl ((byteAt B i3)) n3 4294967296 T2 T0 rfl rfl (show _ ≤ 32 by omega) (by omega)) (TL.val (n_or b3 (((byteAt B i3) * 2 ^ n3)) 4294967296 T5 T0 rfl rfl (by omega) (by omega)) (TL.rm .h9 (TL.a m0 (TL.b (.hd .u7) (CT.region (TL.m m3 (TL.val (n_add n3 8 18446744073709551616 T0 .c) (TL.rm .h5 (TL.a m0 (TL.x (.hd .u2) (EX.bnormal (EX.perm p3 ?_)))))))))))))))))))))))))))))
  exact EX.perm p3 (EX.perm p2 (EX.perm p3 (EX.again ((i3 + 1, b3 ||| byteAt B i3 * 2 ^ n3, n3 + 8)) (⟨hJ1.more (by have := hJ1.1; omega), by show n3 + 8 ≤ M; omega, by show n2 ≤ n3 + 8; omega, by show i3 + 1 ≤ (pack B).length; have := hJ1.1; omega⟩) (by show 100 - (n3 + 8) < 100 - n3; omega) (.refl _) (.eq m1 (by first | rfl | (congr 1 <;> omega) | (congr 1; exact congrArg Int.ofNat (show _ = _ by omega))) (.eq m0 (by first | rfl | (congr 1 <;> omega) | (congr 1; exact congrArg Int.ofNat (show _ = _ by omega))) (.sl 4 3 rfl))))))
 refine CT.sub .u1 (CT.exit (EX.then_exit (EX.then_exit (EX.out (EX.seq (CT.seq ?_))))))
 have hbt := hJ1.mod
 obtain ⟨k1, hok1, hpre1⟩ := ht.full.sym b3
 have hpre : Pre ls k (packByte (B.drop at_)) := by rw [hd]; exact pre_all
 have hpf := pre_found ht.full.fits hok hok1 hpre (by rw [← hbt]; exact hpre1)
 have hlook := ht.tab.found k1 b3 hok1 hpre1
 have h511 : b3 &&& 511 = b3 % 512 := by rw [show (511 : Nat) = 2 ^ 9 - 1 from rfl, Nat.and_two_pow_sub_one_eq_mod]
 have hcs := ht.tab.small (b3 % 512) (Nat.mod_lt _ (by decide))
 have hl1 := hok1.2.1; have hl2 := hok1.2.2
 have hk1s : 16 * k1 + ls.getD k1 0 < 65536 := by rw [← hlook]; unfold Infl.look; split <;> first | exact ht.tab.links _ _ | exact hcs
 refine CT.region (TL.m m4 (TL.m m1 (TL.val (n_and b3 511 4294967296 T0 .c rfl rfl (by omega) (by omega)) (TL.sub (.eq m0 (congrArg (fun z : Nat => Value.int .u32 (z : Int)) h511) (.cons m1 (.cons m2 (.cons m3 (.cons m4 (.cons m5 (.cons m6 (.cons m7 .nil)))))))) (TL.c m2 (TL.val (r_fa (off' := off + 1) fo_94_1 T0) (TL.val (r_iaa (i := (b3 % 512)) (off' := off + 1 + (b3 % 512)) Tryz.underlying91 Tryz.sizeOf89 T0 T2 rfl (by omega) (by omega)) (TL.val (r_ldc (v := (u32 (t.C (b3 % 512)))) Tryz.isAgg89 T0 (fun w hS => hT.cC ht (by exact rfl) m0 m2 hS (Nat.mod_lt _ (by decide)))) (TL.a m0 (TL.r (.hd .u7) (TL.m m0 (TL.val (n_and ((t.C (b3 % 512))) 15 4294967296 T0 .c rfl rfl (by omega) (by omega)) (TL.sub (.eq m0 (congrArg (fun z : Nat => Value.int .u32 (z : Int)) (and15 _)) (.cons m1 (.cons m2 (.cons m3 (.cons m4 (.cons m5 (.cons m6 (.cons m7 .nil)))))))) (TL.val (n_conv (((t.C (b3 % 512)) % 16)) 18446744073709551616 ⟨_, Tryz.underlying89⟩ Tryz.underlying90 T0 rfl (by omega)) (TL.rm .h6 (TL.a m0 (TL.b (.hd .u3) (CT.cut (X := Unit) (fun gx => [(11, (u32 (16 * k1 + ls.getD k1 0))), (6, (u64 (ls.getD k1 0))), (8, (u32 b3)), (7, (u64 n3)), (0, (pt f 0)), (1, (pt b off))]) (fun gx => (blk f 1054 (D { s with r := rif r, roff := i3 })) :: Br r B i3 :: A :: Lnks t :: R) (fun gx => True) ?_ ?_))))))))))))))))))
 ·
  refine CT.q (TL.m m0 (TL.val (n_gtr (((t.C (b3 % 512)) % 16)) 9 T0 .c) (TL.b (.hd .u1) (CT.ifd m0 (fun c75 => ?_) (fun c75 => ?_)))))
  ·
   refine CT.perm p3 ?_
   unfold Infl.look at hlook
   rw [if_pos (by omega)] at hlook
   have hin := ht.tab.inn (b3 % 512) (Nat.mod_lt _ (by decide)) (by omega)
   have hlk := ht.tab.links (t.C (b3 % 512) / 2 ^ 4) (b3 / 2 ^ 9 &&& 2 ^ t.e - 1)
   replace hlook : t.LK (t.C (b3 % 512) / 2 ^ 4) (b3 / 2 ^ 9 &&& 2 ^ t.e - 1) = 16 * k1 + ls.getD k1 0 := hlook
   have he6 := ht.tab.e6
   have hep : 2 ^ t.e ≤ 2 ^ 6 := Nat.pow_le_pow_right (by decide) he6
   have hep1 := Nat.two_pow_pos t.e
   have hnd : b3 / 2 ^ 9 &&& 2 ^ t.e - 1 < 2 ^ t.e := by rw [Nat.and_two_pow_sub_one_eq_mod]; exact Nat.mod_lt _ hep1
   refine CT.lnks (by omega) ?_
   intro lb bs hlv
   refine CT.sub .u1 (CT.seq (CT.still fm (by kernel_rfl) ?_))
   refine TS.m m5 (TS.c m0 (TS.val (r_fa (off' := off + 513) fo_94_2 T0) (TS.val (r_ldc (v := (.slice (some ⟨lb, 0, none⟩) t.nl t.nl)) Tryz.isAgg92 T0 (fun w hS => (hT.cL ht (by exact rfl) m2 m4 hS).trans (congrArg some hlv))) (TS.m m5 (TS.val (n_shr ((t.C (b3 % 512))) 4 T0 .c rfl rfl (by decide)) (TS.val (r_ia (i := ((t.C (b3 % 512)) / 2 ^ 4)) (off' := ((t.C (b3 % 512)) / 2 ^ 4)) Tryz.underlying92 Tryz.sizeOf186 T2 T0 rfl (by omega) (by omega)) (TS.val (r_ld (v := (.slice (some ⟨(bs (((t.C (b3 % 512)) / 2 ^ 4))), 0, none⟩) ((2 ^ t.e)) ((2 ^ t.e)))) Tryz.isAgg186 m0 T0 (by omega) rfl) (TS.m m10 (TS.val (n_shr b3 9 T0 .c rfl rfl (by decide)) (TS.m m15 (TS.c m0 (TS.val (r_fa (off' := off + 514) fo_94_3 T0) (TS.val (r_ldc (v := (u32 (2 ^ t.e - 1))) Tryz.isAgg89 T0 (fun w hS => hT.cM ht (by exact rfl) m2 m4 hS)) (TS.val (n_and ((b3 / 2 ^ 9)) ((2 ^ t.e - 1)) 4294967296 T4 T0 rfl rfl (by omega) (by omega)) (TS.val (r_ia (i := ((b3 / 2 ^ 9) &&& (2 ^ t.e - 1))) (off' := ((b3 / 2 ^ 9) &&& (2 ^ t.e - 1))) Tryz.underlying186 Tryz.sizeOf89 T7 T0 rfl (by omega) (by omega)) (TS.val (r_ldc (v := (u32 (t.LK (t.C (b3 % 512) / 2 ^ 4) (b3 / 2 ^ 9 &&& 2 ^ t.e - 1)))) Tryz.isAgg89 T0 (fun w hS => hS.lmCell m1 (by rw [List.mem_range]; omega) hnd)) (TS.rm .h18 (TS.val (r_asg T0) (TS.nil (TL.b (.hd .u17) (CT.region (TL.m m0 (TL.val (n_and ((t.LK (t.C (b3 % 512) / 2 ^ 4) (b3 / 2 ^ 9 &&& 2 ^ t.e - 1))) 15 4294967296 T0 .c rfl rfl (by omega) (by omega)) (TL.sub (.eq m0 (congrArg (fun z : Nat => Value.int .u32 (z : Int)) (and15 _)) (.cons m1 (.cons m2 (.cons m3 (.cons m4 (.cons m5 (.cons m6 (.cons m7 .nil)))))))) (TL.val (n_conv (((t.LK (t.C (b3 % 512) / 2 ^ 4) (b3 / 2 ^ 9 &&& 2 ^ t.e - 1)) % 16)) 18446744073709551616 ⟨_, Tryz.underlying89⟩ Tryz.underlying90 T0 rfl (by omega)) (TL.rm .h4 (TL.a m0 (TL.x (.hd .u3) (EX.perm p1 (EX.perm p1 (EX.conv (fun w h => lnks_close hlv h) ?_)))))))))))))))))))))))))))))))
   exact EX.perm p3 (EX.perm p3 (EX.perm p3 (EX.meet () trivial (.refl _) (.eq m1 (by first | rfl | (congr 1 <;> omega) | (congr 1; exact congrArg Int.ofNat (show _ = _ by omega))) (.eq m0 (by first | rfl | (congr 1 <;> omega) | (congr 1; exact congrArg Int.ofNat (show _ = _ by omega))) (.sl 2 4 rfl))))))
  unfold Infl.look at hlook
  rw [if_neg (by omega)] at hlook
  exact CT.z (EX.meet () trivial (.refl _) (.eq m1 (by first | rfl | (congr 1 <;> omega) | (congr 1; exact congrArg Int.ofNat (show _ = _ by omega))) (.eq m0 (by first | rfl | (congr 1 <;> omega) | (congr 1; exact congrArg Int.ofNat (show _ = _ by omega))) (.sl 2 4 rfl))))
 rintro ⟨⟩ -
 refine CT.q (TL.m m1 (TL.m m4 (TL.val (n_leq ((ls.getD k1 0)) n3 T1 T0) (TL.b (.hd .u2) (CT.ifd m0 (fun c98 => ?_) (fun c98 => ?_))))))
 ·
  obtain rfl : k1 = k := hpf.2 (by omega)
  have hbd : b3 / 2 ^ ls.getD k1 0 ≤ b3 := Nat.div_le_self _ _
  refine CT.sub .u1 (CT.seq (CT.q (TL.m m1 (TL.val (n_eql ((ls.getD k1 0)) 0 T0 .c) (TL.b (.hd .u1) (CT.ifd m0 (fun c100 => ?_) (fun c100 => ?_)))))))
  ·
   exfalso; omega
  refine CT.z (EX.q (TL.m m4 (TL.m m3 (TL.m m3 (TL.val (n_and (ls.getD k1 0) 31 18446744073709551616 T0 .c rfl rfl (by omega) (by omega)) (TL.sub (.eq m0 (congrArg (fun z : Nat => Value.int .u64 (z : Int)) (and31 (by omega))) (.cons m1 (.cons m2 (.cons m3 (.cons m4 (.cons m5 (.cons m6 (.cons m7 (.cons m8 (.cons m9 .nil)))))))))) (TL.val (n_shr b3 ((ls.getD k1 0)) T2 T0 rfl rfl (show _ ≤ 32 by omega)) (TL.c m4 (TL.f 3 fo_103_3 m0 (TL.s (r_st (F' := D { s with r := rif r, roff := i3, b := b3 / 2 ^ (ls.getD k1 0) }) Tryz.sizeOf89 (Dsat_b ((b3 / 2 ^ (ls.getD k1 0)))) a0 T0 T2 (by decide)) (TL.r .u7 (TL.m m4 (TL.m m4 (TL.m m3 (TL.val (n_sub n3 ((ls.getD k1 0)) 18446744073709551616 T1 T0) (TL.c m3 (TL.f 4 fo_103_4 m0 (TL.s (r_st (F' := D { s with r := rif r, roff := i3, b := b3 / 2 ^ (ls.getD k1 0), nb := n3 - (ls.getD k1 0) }) Tryz.sizeOf90 (Dsat_nb ((n3 - (ls.getD k1 0)))) a0 T0 T2 (by decide)) (TL.r .u6 (TL.m m0 (TL.val (n_shr ((16 * k1 + ls.getD k1 0)) 4 T0 .c rfl rfl (by decide)) (TL.val (n_conv (((16 * k1 + ls.getD k1 0) / 2 ^ 4)) 9223372036854775808 ⟨_, Tryz.underlying89⟩ Tryz.underlying3 T0 rfl (by omega)) (TL.a m0 (TL.val (r_asg .c) (TL.b (.hd (.hd .u3)) (CT.ret ?_))))))))))))))))))))))))))
  exact EX.bret (EX.then_ret (EX.bret (EX.perm p3 (EX.perm p3 (EX.perm p3 (EX.perm p3 (EX.end_ (.inl rfl) (res2 Tryz.results112 m1 m0) (fun _ hS => ⟨i3, b3 / 2 ^ ls.getD k1 0, n3 - ls.getD k1 0, congrArg (fun z : Nat => Value.tuple #[.int .i64 (z : Int), .nilIface]) (by omega), hJ1.take (by omega), by omega, hJ4, hS⟩))))))))
 exact CT.z (EX.bnormal (EX.again ((i3, b3, n3, ls.getD k1 0)) (⟨hJ1, hJ2, by show ls.getD k1 0 ≤ max t.mn (ls.getD k 0); have := hpf.1; omega, hJ4⟩) (by show 2 * (100 - n3) + (if ls.getD k1 0 ≤ n3 then 1 else 0) < 2 * (100 - n2) + (if nn ≤ n2 then 1 else 0); rw [if_neg (by omega)]; split <;> omega) (.refl _) (.cons m2 (.cons m3 (.eq m1 (by first | rfl | (congr 1 <;> omega) | (congr 1; exact congrArg Int.ofNat (show _ = _ by omega))) (.cons m4 (.cons m5 .nil)))))))
end Go.Eng
namespace Go.Infl
def MM (l : List Nat) (mn mx : Nat) : Prop := (∀ x ∈ l, x ≤ mx) ∧ (mx = 0 ∨ mx ∈ l) ∧ (mx = 0 → mn = 0) ∧ (mx ≠ 0 → mn ≠ 0 ∧ mn ∈ l ∧ ∀ x ∈ l, x ≠ 0 → mn ≤ x)
theorem MM.nil : MM [] 0 0 := ⟨(fun x h => by cases h), .inl rfl, fun _ => rfl, fun h => absurd rfl h⟩
theorem MM.zero {l : List Nat} {mn mx : Nat} (h : MM l mn mx) : MM (l ++ [0]) mn mx := by
 obtain ⟨h1, h2, h3, h4⟩ := h
 refine ⟨fun x hx => ?_, h2.imp_right (fun h => List.mem_append_left _ h), h3, fun hm => ⟨(h4 hm).1, List.mem_append_left _ (h4 hm).2.1, fun x hx h0 => ?_⟩⟩
 ·
  rcases List.mem_append.1 hx with hx | hx
  ·
   exact h1 x hx
  rw [List.mem_singleton.1 hx]; exact Nat.zero_le _
 rcases List.mem_append.1 hx with hx | hx
 ·
  exact (h4 hm).2.2 x hx h0
 exact absurd (List.mem_singleton.1 hx) h0
theorem MM.put {l : List Nat} {mn mx x mn' mx' : Nat} (h : MM l mn mx) (hx : x ≠ 0) (h1 : (mn = 0 ∨ x < mn) ∧ mn' = x ∨ ¬ (mn = 0 ∨ x < mn) ∧ mn' = mn) (h2 : mx < x ∧ mx' = x ∨ ¬ mx < x ∧ mx' = mx) : MM (l ++ [x]) mn' mx' := by
 obtain ⟨a1, a2, a3, a4⟩ := h
 have hin : ∀ y, y ∈ l ++ [x] ↔ y ∈ l ∨ y = x := fun y => by rw [List.mem_append, List.mem_singleton]
 refine ⟨fun y hy => ?_, ?_, fun h0 => ?_, fun _ => ⟨?_, ?_, fun y hy h0 => ?_⟩⟩
 ·
  rcases (hin y).1 hy with hy | hy
  ·
   have := a1 y hy; omega
  omega
 ·
  rw [hin]
  rcases h2 with ⟨_, rfl⟩ | ⟨h2, rfl⟩
  ·
   exact .inr (.inr rfl)
  rcases a2 with a2 | a2
  ·
   exact absurd a2 (by omega)
  exact .inr (.inl a2)
 ·
  omega
 ·
  rcases h1 with ⟨_, rfl⟩ | ⟨h1, rfl⟩
  ·
   exact hx
  omega
 ·
  rw [hin]
  rcases h1 with ⟨_, rfl⟩ | ⟨h1, rfl⟩
  ·
   exact .inr rfl
  exact .inl (a4 (fun h => h1 (.inl (a3 h)))).2.1
 rcases (hin y).1 hy with hy | rfl
 ·
  by_cases hm : mx = 0
  ·
   have := a1 y hy; omega
  have := (a4 hm).2.2 y hy h0
  omega
 omega
theorem nx_low {ls : List Nat} : ∀ {m : Nat}, (∀ x ∈ ls, x ≠ 0 → m ≤ x) → nx ls m = 0
 | 0, _ => rfl
 | m + 1, h => by
  rw [nx, nx_low (m := m) (fun x hx h0 => by have := h x hx h0; omega)]
  by_cases hm : m = 0
  ·
   rw [if_pos hm]
  rw [if_neg hm, List.count_eq_zero.2 (fun hmem => by have := h m hmem hm; omega)]
theorem nx_top {ls : List Nat} {mx : Nat} (h : ∀ x ∈ ls, x ≤ mx) : ∀ {d : Nat}, nx ls (mx + 1 + d) = nx ls (mx + 1) * 2 ^ d
 | 0 => by simp
 | d + 1 => by
  rw [← Nat.add_assoc, nx, nx_top (d := d) h, if_neg (by omega), List.count_eq_zero.2 (fun hmem => by have := h _ hmem; omega), Nat.add_zero, Nat.pow_succ, Nat.mul_comm 2, Nat.mul_assoc]
theorem nx_end {ls : List Nat} {mx : Nat} (h : ∀ x ∈ ls, x ≤ mx) (hm : mx ≤ 15) : nx ls 16 = nx ls (mx + 1) * 2 ^ (15 - mx) := by
 have := nx_top h (d := 15 - mx)
 rwa [show mx + 1 + (15 - mx) = 16 by omega] at this
theorem nx_zero {ls : List Nat} (h : ∀ x ∈ ls, x = 0) (n : Nat) : nx ls n = 0 := nx_low fun x hx h0 => absurd (h x hx) h0
theorem Full.top {ls : List Nat} {mx : Nat} (hf : Full ls) (h : ∀ x ∈ ls, x ≤ mx) (hm : mx ≤ 15) : nx ls (mx + 1) = 2 ^ mx := by
 have e := nx_end h hm
 rw [show nx ls 16 = 2 ^ 15 from hf, show (2 : Nat) ^ 15 = 2 ^ mx * 2 ^ (15 - mx) by rw [← Nat.pow_add]; congr 1; omega] at e
 exact (Nat.mul_right_cancel (Nat.two_pow_pos _) e).symm
theorem Over.top {ls : List Nat} {mx : Nat} (hf : Over ls) (h : ∀ x ∈ ls, x ≤ mx) (hm : mx ≤ 15) : 2 ^ mx < nx ls (mx + 1) := by
 have e := nx_end h hm
 have hf' : 2 ^ 15 < nx ls 16 := hf
 rw [e, show (2 : Nat) ^ 15 = 2 ^ mx * 2 ^ (15 - mx) by rw [← Nat.pow_add]; congr 1; omega] at hf'
 exact Nat.lt_of_mul_lt_mul_right hf'
theorem Full.some {ls : List Nat} (h : Full ls) : ¬ ∀ x ∈ ls, x = 0 := fun h0 => by
 have := nx_zero h0 16
 unfold Full at h
 rw [this] at h
 exact absurd h (by decide)
theorem Over.some {ls : List Nat} (h : Over ls) : ¬ ∀ x ∈ ls, x = 0 := fun h0 => by
 have := nx_zero h0 16
 unfold Over at h
 rw [this] at h
 exact absurd h (by decide)
theorem chunk_or {i n : Nat} (h : n < 16) : i * 2 ^ 4 ||| n = 16 * i + n := by
 rw [Nat.or_comm, or_add (k := 4) h]; omega
theorem TabI.start {ls : List Nat} {e : Nat} {long : Prop} {C : Nat → Nat} (hC : ∀ j, j < 512 → long ∧ nx ls 10 ≤ rv 9 j ∧ C j = 16 * (rv 9 j - nx ls 10) + 10 ∨ ¬ (long ∧ nx ls 10 ≤ rv 9 j) ∧ C j = 0) : TabI ls 0 e long C (fun _ _ => 0) :=
 {
  short := fun k hk => absurd hk (Nat.not_lt_zero k)
  ind := fun hl j hj hr => by
   rcases hC j hj with ⟨_, _, h⟩ | ⟨h, _⟩
   ·
    exact h
   exact absurd ⟨hl, hr⟩ h
  lng := fun k hk => absurd hk (Nat.not_lt_zero k)
  kind := fun j hj => by
   have h9 := rv_lt 9 j
   rcases hC j hj with ⟨hl, h1, h⟩ | ⟨_, h⟩
   ·
    refine ⟨by omega, fun _ => ⟨hl, h1, by omega⟩⟩
   rw [h]; exact ⟨by decide, fun h => absurd h (by decide)⟩
  links := fun _ _ => by decide }
theorem Full.used {ls : List Nat} (h : Full ls) : ∃ i j, i < j ∧ LOk ls i ∧ LOk ls j := by
 obtain ⟨i, hi, h1⟩ := h.sym 0
 obtain ⟨j, hj, h2⟩ := h.sym (2 ^ 15 - 1)
 have hne : i ≠ j := fun e => by
  subst e
  unfold Pre at h1 h2
  rw [← h1] at h2
  have hl := hi.2
  have : (2 ^ 15 - 1) % 2 ^ ls.getD i 0 = 2 ^ ls.getD i 0 - 1 := by
   apply Nat.eq_of_testBit_eq
   intro q
   rw [Nat.testBit_mod_two_pow, Nat.testBit_two_pow_sub_one, Nat.testBit_two_pow_sub_one]
   by_cases hq : q < ls.getD i 0
   ·
    have : q < 15 := by omega
    simp only [hq, this, decide_true, Bool.true_and]
   simp only [hq, decide_false, Bool.false_and]
  rw [this, Nat.zero_mod] at h2
  have : 2 ^ 1 ≤ 2 ^ ls.getD i 0 := Nat.pow_le_pow_right (by decide) hl.1
  omega
 rcases Nat.lt_or_ge i j with hij | hij
 ·
  exact ⟨i, j, hij, hi, hj⟩
 exact ⟨j, i, by omega, hj, hi⟩
end Go.Infl
namespace Go.Eng
open Go Go.Proofs Go.Infl
theorem z94 : Tryz.zeroCells94 = ((List.range 515).map hz).toArray := by kernel_rfl
theorem z184 : (Value.agg #[.int .i64 0, .int .i64 0, .int .i64 0, .int .i64 0, .int .i64 0, .int .i64 0, .int .i64 0, .int .i64 0, .int .i64 0, .int .i64 0, .int .i64 0, .int .i64 0, .int .i64 0, .int .i64 0, .int .i64 0, .int .i64 0]).cells.toList = (List.range 16).map (fun jj => i64 ((fun _ => 0) jj)) := by kernel_rfl
theorem r_allocz {P : Program} {G : World} {ρ : Env} {n : Nat} {L : List HProp} {d : Option Tmp} {ty : TypeId} {pos : String} {af : Array Edge} {g : Option (Nat × Bool)} {t m : Nat} {cs : Array Value} {F : Nat → Value} (hz : ∀ w, (zeroValue t).run P w = .ok (.agg cs) w) (h : cs.toList = (List.range m).map F) :
 RunW P G ρ n L ⟨d, .alloc t, ty, pos, af, g⟩ (NewAt G L m F (fun b => pt b 0)) := by
 have hs : cs.size = m := by rw [← Array.length_toList, h]; simp
 refine r_alloc hz rfl hs fun i hi => ?_
 show cs[i]? = _
 rw [← Array.getElem?_toList, h, List.getElem?_map, List.getElem?_range hi]
 rfl
theorem blk_ext {b n : Nat} {F F' : Nat → Value} (h : ∀ i, i < n → F i = F' i) : ∀ m, blk b n F m → blk b n F' m := fun m ⟨cs, T, h1, h2, h3⟩ => ⟨cs, T, h1, h2, fun i hi => by rw [h3 i hi, h i hi]⟩
section
variable {F T : Nat → Value} {off mn mk x i : Nat} {C : Nat → Nat} {lv v : Value}
theorem tabf_get0a : tabf F off T off = T 0 := tabf_get (i := 0) (by decide)
theorem tabf_getL : tabf F off (hc mn C lv mk) (off + 513) = lv := tabf_get (by decide)
theorem tabf_getC (h : i < 512) : tabf F off (hc mn C lv mk) (off + 1 + i) = u32 (C i) := by rw [Nat.add_assoc, tabf_get (by omega), hc_getC h]
theorem tabf_set0 : upd (tabf F off (hc mn C lv mk)) off (i64 x) = tabf F off (hc x C lv mk) := (upd_tabf (i := 0) (by decide)).trans (congrArg (tabf F off) hc_set0)
theorem tabf_setL : upd (tabf F off (hc mn C lv mk)) (off + 513) v = tabf F off (hc mn C v mk) := (upd_tabf (i := 513) (by decide)).trans (congrArg (tabf F off) hc_setL)
theorem tabf_setM : upd (tabf F off (hc mn C lv mk)) (off + 514) (u32 x) = tabf F off (hc mn C lv x) := (upd_tabf (i := 514) (by decide)).trans (hc_setM F off)
theorem tabf_setC (h : i < 512) : upd (tabf F off (hc mn C lv mk)) (off + 1 + i) (u32 x) = tabf F off (hc mn (updN C i x) lv mk) := by rw [Nat.add_assoc]; exact (upd_tabf (by omega)).trans (congrArg (tabf F off) (hc_setC h))
theorem hz_one {y : Value} (h : y ∈ (List.range 515).map hz) : one y = true := by
 obtain ⟨j, _, rfl⟩ := List.mem_map.1 h
 unfold hz hc
 split
 ·
  rfl
 split
 ·
  rfl
 split <;> rfl
theorem tabf_ext {T' : Nat → Value} (h : ∀ j, j < 515 → T j = T' j) : tabf F off T = tabf F off T' := by
 funext j
 unfold tabf
 split
 ·
  exact h _ (by omega)
 rfl
theorem tabf_reset : updl (tabf F off T) off ((List.range 515).map hz) = tabf F off (hc 0 (fun _ => 0) (.slice none 0 0) 0) := by
 funext j
 rw [updl_at]
 simp only [List.length_map, List.length_range]
 unfold tabf
 by_cases h : off ≤ j ∧ j < off + 515
 ·
  rw [if_pos h, if_pos h, List.getD_eq_getElem?_getD, List.getElem?_map, List.getElem?_range (by omega)]
  rfl
 rw [if_neg h, if_neg h, if_neg h]
theorem TOk.min (h : TOk T) : ∃ m0 : Nat, T 0 = i64 m0 ∧ (m0 = 0 → tabf F off T = tabf F off (hc 0 (fun _ => 0) (.slice none 0 0) 0)) := by
 rcases h with ⟨m0, h1, h2⟩ | h
 ·
  exact ⟨m0, h2, fun e => absurd e h1⟩
 exact ⟨0, h 0 (by decide), fun _ => tabf_ext h⟩
theorem fa_set_i64 {f : Nat → Nat} : upd (fun jj => i64 (f jj)) i (i64 x) = fun jj => i64 (updN f i x jj) := by funext j; unfold upd updN; split <;> rfl
theorem fa_set_u32 {f : Nat → Nat} : upd (fun jj => u32 (f jj)) i (u32 x) = fun jj => u32 (updN f i x jj) := by funext j; unfold upd updN; split <;> rfl
end
theorem cnt_put {cnt : Nat → Nat} {x jj : Nat} : updN cnt x (cnt x + 1) jj = cnt jj + List.count jj [x] := by
 unfold updN
 by_cases e : jj = x
 ·
  subst e; simp
 rw [if_neg e, List.count_cons_of_ne (fun h => e h.symm)]; rfl
theorem nxt_put {ls : List Nat} {mn i code : Nat} {nxt : Nat → Nat} (h1 : mn ≤ i) (h3 : code = nx ls i) (h4 : ∀ jj, nxt jj = if mn ≤ jj ∧ jj < i then 2 * nx ls jj else 0) (jj : Nat) : updN nxt i (code * 2 ^ 1) jj = if mn ≤ jj ∧ jj < i + 1 then 2 * nx ls jj else 0 := by
 unfold updN
 by_cases e : jj = i
 ·
  subst e; rw [if_pos rfl, if_pos (by omega), h3]; omega
 rw [if_neg e, h4 jj]
 by_cases h : mn ≤ jj ∧ jj < i
 ·
  rw [if_pos h, if_pos (by omega)]
 rw [if_neg h, if_neg (by omega)]
theorem link_le {ls : List Nat} {mx : Nat} (hF : Full ls) (h : ∀ x ∈ ls, x ≤ mx) (hm : mx ≤ 15) (h9 : 9 < mx) : nx ls 10 ≤ 512 := by
 have h1 := sAt_mono (ls := ls) (n := 10) (m := 15) (by decide) (by decide) (by decide)
 have h2 := nx16 ls
 have h3 : sAt ls 10 = nx ls 10 * 2 ^ 6 := by unfold sAt; omega
 unfold Full at hF
 omega
theorem ind_put {C : Nat → Nat} {j lk : Nat} (h1 : lk ≤ j) (h2 : j < 512) (h3 : ∀ x, x < 512 → C x = if lk ≤ rv 9 x ∧ rv 9 x < j then 16 * (rv 9 x - lk) + 10 else 0) (x : Nat) (hx : x < 512) : updN C (rv 9 j) (16 * (j - lk) + 10) x = if lk ≤ rv 9 x ∧ rv 9 x < j + 1 then 16 * (rv 9 x - lk) + 10 else 0 := by
 unfold updN
 by_cases e : x = rv 9 j
 ·
  subst e; rw [if_pos rfl, rv9_rv9 h2, if_pos (by omega)]
 have hne : rv 9 x ≠ j := fun he => e (by rw [← he, rv9_rv9 hx])
 rw [if_neg e, h3 x hx]
 by_cases h : lk ≤ rv 9 x ∧ rv 9 x < j
 ·
  rw [if_pos h, if_pos (by omega)]
 rw [if_neg h, if_neg (by omega)]
theorem ind_end {ls : List Nat} {C : Nat → Nat} {lk : Nat} {long : Prop} (h : ∀ x, x < 512 → C x = if lk ≤ rv 9 x ∧ rv 9 x < 512 then 16 * (rv 9 x - lk) + 10 else 0) (hlk : lk = nx ls 10) (hl : long) : ∀ x, x < 512 → long ∧ nx ls 10 ≤ rv 9 x ∧ C x = 16 * (rv 9 x - nx ls 10) + 10 ∨ ¬ (long ∧ nx ls 10 ≤ rv 9 x) ∧ C x = 0 := by
 subst hlk
 intro x hx
 have h9 := rv_lt 9 x
 rw [h x hx]
 by_cases h2 : nx ls 10 ≤ rv 9 x
 ·
  exact .inl ⟨hl, h2, if_pos ⟨h2, by omega⟩⟩
 exact .inr ⟨fun hh => h2 hh.2, if_neg (fun hh => h2 hh.1)⟩
theorem fill_put {C C2 : Nat → Nat} {o p r c y : Nat} (hp : 0 < p) (h1 : o % p = r) (h : C y = if y % p = r ∧ y < o then c else C2 y) : updN C o c y = if y % p = r ∧ y < o + p then c else C2 y := by
 unfold updN
 by_cases e : y = o
 ·
  subst e
  rw [if_pos rfl, if_pos ⟨h1, by omega⟩]
 rw [if_neg e, h]
 by_cases h2 : y % p = r ∧ y < o
 ·
  rw [if_pos h2, if_pos ⟨h2.1, by omega⟩]
 rw [if_neg h2, if_neg]
 rintro ⟨h3, h4⟩
 have h5 : ¬ y < o := fun h => h2 ⟨h3, h⟩
 rw [← h1] at h3
 have e1 := Nat.div_add_mod y p
 have e2 := Nat.div_add_mod o p
 have hd : y / p = o / p ∨ o / p < y / p ∨ y / p < o / p := by omega
 rcases hd with hd | hd | hd
 ·
  rw [hd] at e1; omega
 ·
  have := Nat.mul_le_mul_left p (show o / p + 1 ≤ y / p from hd)
  rw [Nat.mul_add, Nat.mul_one] at this; omega
 have := Nat.mul_le_mul_left p (show y / p + 1 ≤ o / p from hd)
 rw [Nat.mul_add, Nat.mul_one] at this; omega
theorem fill_put2 {C C2 : Nat → Nat} {o p r c y z : Nat} (hp : 0 < p) (ho : o < z) (h1 : o % p = r) (h : C y = if y % p = r ∧ y < o ∧ y < z then c else C2 y) : updN C o c y = if y % p = r ∧ y < o + p ∧ y < z then c else C2 y := by
 by_cases hz : y < z
 ·
  have := fill_put (C2 := C2) (c := c) hp h1 (y := y) (C := C) (by rw [h]; congr 1; apply propext; constructor; (rintro ⟨a, b, _⟩; exact ⟨a, b⟩); (rintro ⟨a, b⟩; exact ⟨a, b, hz⟩))
  rw [this]; congr 1; apply propext; constructor
  ·
   rintro ⟨a, b⟩; exact ⟨a, b, hz⟩
  rintro ⟨a, b, _⟩; exact ⟨a, b⟩
 rw [if_neg (fun hh => hz hh.2.2)]
 unfold updN
 rw [if_neg (by omega), h, if_neg (fun hh => hz hh.2.2)]
theorem lk_put {j lk b2 ne : Nat} {bs : Nat → Nat} (h : lk ≤ j) : upd (fun v => if v < j - lk then Value.slice (some ⟨bs v, 0, none⟩) ne ne else .slice none 0 0) (j - lk) (.slice (some ⟨b2, 0, none⟩) ne ne) = fun v => if v < j + 1 - lk then .slice (some ⟨updN bs (j - lk) b2 v, 0, none⟩) ne ne else .slice none 0 0 := by
 funext v
 unfold upd updN
 by_cases e : v = j - lk
 ·
  rw [if_pos e, if_pos (by omega), if_pos e]
 rw [if_neg e]
 simp only [if_neg e]
 by_cases h2 : v < j - lk
 ·
  rw [if_pos h2, if_pos (by omega)]
 rw [if_neg h2, if_neg (by omega)]
theorem lm_nil {n ne : Nat} {bs : Nat → Nat} {LK : Nat → Nat → Nat} (h : n = 0) : LM (List.range n) ne bs LK (fun _ => none) := by subst h; exact trivial
section
variable {G w : World} {R : List HProp} {ne v : Nat} {bs : Nat → Nat} {LK : Nat → Nat → Nat} {l : List Nat}
theorem map_congr_mem {α β : Type} {f g : α → β} {l : List α} (h : ∀ x ∈ l, f x = g x) : l.map f = l.map g := List.map_congr_left h
theorem lm_push {j lk b2 : Nat} (h : lk ≤ j) (hS : Sat G w (blk b2 ne (fun _ => (.int .u32 0)) :: LM (List.range (j - lk)) ne bs (fun _ _ => 0) :: R)) : Sat G w (LM (List.range (j + 1 - lk)) ne (updN bs (j - lk) b2) (fun _ _ => 0) :: R) := by
 have e : (List.range (j + 1 - lk)).map (fun v => blk (updN bs (j - lk) b2 v) ne (fun o => u32 ((fun _ _ => 0 : Nat → Nat → Nat) v o))) = (List.range (j - lk)).map (fun v => blk (bs v) ne (fun o => u32 ((fun _ _ => 0 : Nat → Nat → Nat) v o))) ++ [blk b2 ne (fun _ => (.int .u32 0))] := by
  rw [show j + 1 - lk = (j - lk) + 1 by omega, List.range_succ, List.map_append]
  congr 1
  ·
   refine map_congr_mem fun x hx => ?_
   rw [List.mem_range] at hx
   unfold updN
   rw [if_neg (by omega)]
  show [blk (updN bs (j - lk) b2 (j - lk)) ne (fun o => u32 0)] = _
  have e1 : updN bs (j - lk) b2 (j - lk) = b2 := if_pos rfl
  rw [e1]
  rfl
 unfold LM
 rw [e]
 have h1 := Sat.unsep ((hS.perm p1) : Sat G w (sep _ :: blk b2 ne (fun _ => (.int .u32 0)) :: R))
 refine Sat.resep (Ls := _ ++ [_]) ?_
 rw [List.append_assoc]
 exact h1
def LMb (l : List Nat) (ne : Nat) (bs : Nat → Nat) (LK : Nat → Nat → Nat) (v : Nat) : HProp := LM (l.erase v) ne bs LK
theorem lm_take (hv : v ∈ l) (hS : Sat G w (LM l ne bs LK :: R)) : Sat G w (blk (bs v) ne (fun o => u32 (LK v o)) :: LMb l ne bs LK v :: R) := by
 have h1 := (Sat.unsep hS).perm ((((List.perm_cons_erase hv).map (fun v => blk (bs v) ne (fun o => u32 (LK v o))))).append_right R)
 have h2 : Sat G w ((l.erase v).map (fun v => blk (bs v) ne (fun o => u32 (LK v o))) ++ (blk (bs v) ne (fun o => u32 (LK v o)) :: R)) := h1.perm (List.perm_middle (l₁ := (l.erase v).map (fun v => blk (bs v) ne (fun o => u32 (LK v o))))).symm
 exact (Sat.resep h2).perm p1
theorem lm_put {K : Nat → Nat} {A : HProp} (hv : v ∈ l) (hl : l.Nodup) (hS : Sat G w (blk (bs v) ne (fun o => u32 (K o)) :: LMb l ne bs LK v :: A :: R)) : Sat G w (LM l ne bs (fun x o => if x = v then K o else LK x o) :: A :: R) := by
 have e : (l.erase v).map (fun x => blk (bs x) ne (fun o => u32 (LK x o))) = (l.erase v).map (fun x => blk (bs x) ne (fun o => u32 (if x = v then K o else LK x o))) := by
  refine map_congr_mem fun x hx => ?_
  have : x ≠ v := fun h => by subst h; exact absurd hx (hl.not_mem_erase)
  simp only [if_neg this]
 have h1 := Sat.unsep ((hS.perm p1) : Sat G w (sep _ :: blk (bs v) ne (fun o => u32 (K o)) :: A :: R))
 rw [e] at h1
 have h2 := h1.perm (List.perm_middle (l₁ := (l.erase v).map (fun x => blk (bs x) ne (fun o => u32 (if x = v then K o else LK x o)))))
 have e2 : blk (bs v) ne (fun o => u32 (K o)) = (fun x => blk (bs x) ne (fun o => u32 (if x = v then K o else LK x o))) v := by simp
 rw [e2] at h2
 exact Sat.resep (Ls := l.map _) (h2.perm ((((List.perm_cons_erase hv).map (fun x => blk (bs x) ne (fun o => u32 (if x = v then K o else LK x o))))).append_right (A :: R)).symm)
theorem Sat.two1 {A B X : HProp} (h : Sat G w (A :: B :: X :: R)) : Sat G w (A :: B :: R) := (h.perm p2).tail
theorem Sat.two2 {A B X Y : HProp} (h : Sat G w (A :: B :: X :: Y :: R)) : Sat G w (A :: B :: R) := ((h.perm p3).tail.perm p2).tail
theorem Sat.three2 {A B C X Y : HProp} (h : Sat G w (A :: B :: C :: X :: Y :: R)) : Sat G w (A :: B :: C :: R) := ((h.perm p4).tail.perm p3).tail
end
theorem fin_tab {ls : List Nat} {k mn mx nl e : Nat} {C : Nat → Nat} {LK : Nat → Nat → Nat} {lv : Value} (hF : Full ls) (h : TabI ls k e (9 < mx) C LK) (h1 : k ≤ ls.length) (h2 : ¬ k < ls.length) (he : e ≤ 6) (hm : ∀ x ∈ ls, x ≤ mx) (h15 : ∀ x ∈ ls, x ≤ 15) (hK : 9 < mx → nl = 512 - nx ls 10 ∧ e = mx - 9) (h3 : mn ≤ mx) (h4 : mx ≤ 15) : TDok ls ⟨mn, C, LK, nl, e, lv⟩ (hc mn C lv (2 ^ e - 1)) := by
 obtain rfl : k = ls.length := by omega
 refine ⟨fun _ _ => rfl, h.tab hF.fits he (fun i hi h9 => ?_) (fun hl => (hK hl).1), hF, by show mn ≤ 15; omega⟩
 have := hm _ (List.mem_of_getElem? (lens_get hi))
 have hl : 9 < mx := by omega
 exact ⟨hl, by rw [(hK hl).2]; omega⟩
theorem hmn_le {ls : List Nat} {mn : Nat} (h : ∀ x ∈ ls, x ≠ 0 → mn ≤ x) : ∀ k, LOk ls k → mn ≤ ls.getD k 0 := fun k hk => h _ (List.mem_of_getElem? (lens_get hk)) (by have := hk.2.1; omega)
theorem t111_z {b n off : Nat} {F T : Nat → Value} (hn : off + 515 ≤ n) (hT : TOk T) (A : HProp) (ls : List Nat) (lb lo lc : Nat) (hR : ∀ {G w : World} {L : List HProp}, A ∈ L → Sat G w L → ∀ j x, ls[j]? = some x → w.cell? ⟨lb, lo + j, none⟩ = some (i64 x)) (hls : ls.length ≤ 1000) (h15 : ∀ x ∈ ls, x ≤ 15) (h0 : ∀ x ∈ ls, x = 0) {G : World} {R : List HProp} {w : World}
 (hS : Sat G w (blk b n (tabf F off T) :: A :: R)) : CallsR Tryz.prog 111 #[pt b off, .slice (some ⟨lb, lo, none⟩) ls.length lc] w (fun v w' => v = .bool true ∧ Sat G w' (blk b n (tabf F off (hc 0 (fun _ => 0) (.slice none 0 0) 0)) :: A :: R)) := by
 obtain ⟨mz, hmz, hmz1⟩ := hT.min (F := F) (off := off)
 refine calls_in (n := 317) [(0, (pt b off)), (1, (.slice (some ⟨lb, lo, none⟩) ls.length lc))] Tryz.func111 rfl rfl hS args2 ?_
 refine CT.q (TL.val (r_asg .c) (TL.e (CT.cut (X := Unit) (fun gx => [(4, (.bool false)), (0, (pt b off)), (1, (.slice (some ⟨lb, lo, none⟩) ls.length lc))]) (fun gx => (blk b n (tabf F off (hc 0 (fun _ => 0) (.slice none 0 0) 0))) :: A :: R) (fun gx => True) ?_ ?_)))
 ·
  refine CT.q (TL.m m1 (TL.c m0 (TL.f off fo_94_0 m0 (TL.val (r_ldc (v := (i64 mz)) Tryz.isAgg3 T0 (fun w hS => (hS.cell m0 (by omega)).trans (congrArg some (tabf_get0a.trans hmz)))) (TL.val (n_neq mz 0 T0 .c) (TL.b (.hd .u4) (CT.ifd m0 (fun c38 => ?_) (fun c38 => ?_))))))))
  ·
   refine CT.sub .u1 (CT.region (TL.m m1 (TL.val (r_build (v := .agg ((List.range 515).map hz).toArray) .nil (fun _ => by rw [← z94]; kernel_rfl)) (TL.c m1 (TL.s (r_stagg (cs := (List.range 515).map hz) Tryz.sizeOf94 T0 T1 (by rw [List.length_map, List.length_range]) (by omega) (fun x hx => hz_one hx)) (TL.conv (fun _ h => h.imp (blk_eq rfl tabf_reset)) ?_))))))
   show TL _ _ _ _ _ _ _ (blk b n (tabf F off (hc 0 (fun _ => 0) (.slice none 0 0) 0)) :: A :: R)
   exact TL.x .u3 (EX.meet () trivial (.refl _) (.sl 0 3 rfl))
  exact CT.z (EX.fold (A' := (blk b n (tabf F off (hc 0 (fun _ => 0) (.slice none 0 0) 0)))) a0 (blk_eq rfl (hmz1 (by omega))) (EX.meet () trivial (.refl _) (.sl 0 3 rfl)))
 rintro ⟨⟩ -
 refine CT.q (TL.w (r_allocz (F := fun jj => i64 ((fun _ => 0) jj)) Tryz.zeroValue184 z184) ?_)
 rintro _ w5 ⟨cnb, rfl, hS⟩
 refine TW.at hS (TL.q (TL.val (r_asg .c) (TL.val (r_asg .c) (TL.e (CT.seq (CT.q (TL.m m5 (TL.val (r_len Tryz.underlying42 T0) (TL.val (r_move .c) (TL.e (CT.block (CT.loop (X := Nat × Nat × Nat × (Nat → Nat)) (fun gx => [(44, (i64 gx.1)), (7, (i64 gx.2.2.1)), (6, (i64 gx.2.1)), (43, (i64 ls.length)), (42, (.slice (some ⟨lb, lo, none⟩) ls.length lc)), (5, (pt cnb 0)), (4, (.bool false)), (0, (pt b off)), (1, (.slice (some ⟨lb, lo, none⟩) ls.length lc))]) (fun gx => (blk cnb 16 (fun jj => i64 (gx.2.2.2 jj))) :: blk b n (tabf F off (hc 0 (fun _ => 0) (.slice none 0 0) 0)) :: A :: R) (fun gx => gx.1 ≤ ls.length ∧ MM (ls.take gx.1) gx.2.1 gx.2.2.1 ∧ ∀ jj, 1 ≤ jj → gx.2.2.2 jj = (ls.take gx.1).count jj) (fun gx => ls.length - gx.1) ((0, 0, 0, (fun _ => 0))) (⟨Nat.zero_le _, MM.nil, fun _ _ => rfl⟩) (.refl _) (.cons m0 (.cons m3 (.cons m4 (.cons m1 (.cons m2 (.sl 5 4 rfl)))))) ?_))))))))))))
 rintro ⟨k, mn, mx, cnt⟩ ⟨hI1, hI2, hI3⟩
 replace hI1 : k ≤ ls.length := hI1
 replace hI2 : MM (ls.take k) mn mx := hI2
 replace hI3 : ∀ jj, 1 ≤ jj → cnt jj = (ls.take k).count jj := hI3
 refine CT.q (TL.val (n_lss k ls.length T0 T3) (TL.e (CT.seq (CT.ifd m0 (fun c45 => ?_) (fun c45 => ?_)))))
 ·
  refine CT.z (EX.seq (CT.seq (CT.block (CT.seq ?_))))
  obtain ⟨x1, hx1⟩ : ∃ x1, ls[k]? = some x1 := ⟨_, List.getElem?_eq_getElem c45⟩
  have hx15 : x1 ≤ 15 := h15 x1 (List.mem_of_getElem? hx1)
  have htk : ls.take (k + 1) = ls.take k ++ [x1] := by rw [List.take_add_one, hx1]; rfl
  refine CT.region (TL.val (r_ia (i := k) (off' := lo + k) Tryz.underlying42 Tryz.sizeOf3 T4 T0 rfl (by omega) (by omega)) (TL.val (r_ldc (v := (i64 x1)) Tryz.isAgg3 T0 (fun w hS => hR (by first | exact .head _ | exact .tail _ (.head _) | exact .tail _ (.tail _ (.head _)) | exact .tail _ (.tail _ (.tail _ (.head _))) | exact .tail _ (.tail _ (.tail _ (.tail _ (.head _)))) | exact .tail _ (.tail _ (.tail _ (.tail _ (.tail _ (.head _)))))) hS _ _ hx1)) (TL.a m0 (TL.b (.hd .u2) (CT.seq (CT.q (TL.m m0 (TL.val (n_eql x1 0 T0 .c) (TL.b (.hd .u1) (CT.ifd m0 (fun c49 => ?_) (fun c49 => ?_)))))))))))
  ·
   obtain rfl : x1 = 0 := by omega
   exact CT.sub .u1 (CT.exit (EX.then_exit (EX.out (EX.seq (CT.region (TL.val (n_add k 1 9223372036854775808 T1 .c) (TL.rm .h2 (TL.m m0 (TL.x (.hd .u1) (EX.again ((k + 1, mn, mx, cnt)) (⟨show k + 1 ≤ ls.length by omega, by show MM (ls.take (k + 1)) _ _; rw [htk]; exact hI2.zero, fun jj hj => by show cnt jj = (ls.take (k + 1)).count jj; rw [htk, List.count_append, ← hI3 jj hj]; exact (by rw [List.count_cons_of_ne (by omega)]; rfl)⟩) (by show ls.length - (k + 1) < ls.length - k; omega) (.refl _) (.eq m0 (by first | rfl | (congr 1 <;> omega) | exact congrArg Value.bool (by simp [*]) ) (.sl 2 8 rfl))))))))))))
  refine CT.z (EX.seq (CT.cut (X := Nat) (fun gx => [(6, (i64 gx)), (9, (i64 x1)), (44, (i64 k)), (7, (i64 mx)), (43, (i64 ls.length)), (42, (.slice (some ⟨lb, lo, none⟩) ls.length lc)), (5, (pt cnb 0)), (4, (.bool false)), (0, (pt b off)), (1, (.slice (some ⟨lb, lo, none⟩) ls.length lc))]) (fun gx => (blk cnb 16 (fun jj => i64 (cnt jj))) :: blk b n (tabf F off (hc 0 (fun _ => 0) (.slice none 0 0) 0)) :: A :: R) (fun gx => (mn = 0 ∨ x1 < mn) ∧ gx = x1 ∨ ¬ (mn = 0 ∨ x1 < mn) ∧ gx = mn) ?_ ?_))
  ·
   refine CT.cut (X := Unit) (fun gx => [(56, (.bool (decide (mn = 0 ∨ x1 < mn)))), (9, (i64 x1)), (44, (i64 k)), (7, (i64 mx)), (6, (i64 mn)), (43, (i64 ls.length)), (42, (.slice (some ⟨lb, lo, none⟩) ls.length lc)), (5, (pt cnb 0)), (4, (.bool false)), (0, (pt b off)), (1, (.slice (some ⟨lb, lo, none⟩) ls.length lc))]) (fun gx => (blk cnb 16 (fun jj => i64 (cnt jj))) :: blk b n (tabf F off (hc 0 (fun _ => 0) (.slice none 0 0) 0)) :: A :: R) (fun gx => True) ?_ ?_
   ·
    refine CT.region (TL.m m3 (TL.val (n_eql mn 0 T0 .c) (TL.m m0 ?_)))
    by_cases g52 : mn = 0
    ·
     exact TL.sub (.eq m0 (congrArg Value.bool (decide_eq_true g52)) (.eq m1 (congrArg Value.bool (decide_eq_true g52)) (.cons m2 (.cons m3 (.cons m4 (.cons m5 (.cons m6 (.cons m7 (.cons m8 (.cons m9 (.cons m10 (.cons m11 (.cons m12 .nil))))))))))))) (TL.gn m0 (TL.gn m0 (TL.gn m0 (TL.val (r_pickt T0 .c) (TL.x (.hd .u3) (EX.meet () trivial (.refl _) (.eq m0 (by first | rfl | (congr 1 <;> omega) | exact congrArg Value.bool (by simp [*]) ) (.sl 1 10 rfl))))))))
    exact TL.sub (.eq m0 (congrArg Value.bool (decide_eq_false g52)) (.eq m1 (congrArg Value.bool (decide_eq_false g52)) (.cons m2 (.cons m3 (.cons m4 (.cons m5 (.cons m6 (.cons m7 (.cons m8 (.cons m9 (.cons m10 (.cons m11 (.cons m12 .nil))))))))))))) (TL.gv m0 (r_move T3) (TL.gv m1 (r_move T7) (TL.gv m2 (n_lss x1 mn T1 T0) (TL.val (r_pickf T3 T0) (TL.x (.hd .u6) (EX.meet () trivial (.refl _) (.eq m0 (by first | rfl | (congr 1 <;> omega) | exact congrArg Value.bool (by simp [*]) ) (.sl 1 10 rfl))))))))
   rintro ⟨⟩ -
   refine CT.ifd m0 (fun c56 => ?_) (fun c56 => ?_)
   ·
    exact CT.sub .u1 (CT.region (TL.m m0 (TL.rm .h4 (TL.a m0 (TL.x (.hd .u1) (EX.meet x1 (.inl ⟨c56, rfl⟩) (.refl _) (.sl 0 10 rfl)))))))
   exact CT.z (EX.meet mn (.inr ⟨c56, rfl⟩) (.refl _) (.cons m3 (.cons m0 (.cons m1 (.cons m2 (.sl 4 6 rfl))))))
  rintro mn2 hmn2
  refine CT.cut (X := Nat) (fun gx => [(7, (i64 gx)), (6, (i64 mn2)), (9, (i64 x1)), (44, (i64 k)), (43, (i64 ls.length)), (42, (.slice (some ⟨lb, lo, none⟩) ls.length lc)), (5, (pt cnb 0)), (4, (.bool false)), (0, (pt b off)), (1, (.slice (some ⟨lb, lo, none⟩) ls.length lc))]) (fun gx => (blk cnb 16 (fun jj => i64 (cnt jj))) :: blk b n (tabf F off (hc 0 (fun _ => 0) (.slice none 0 0) 0)) :: A :: R) (fun gx => mx < x1 ∧ gx = x1 ∨ ¬ mx < x1 ∧ gx = mx) ?_ ?_
  ·
   refine CT.q (TL.m m1 (TL.m m4 (TL.val (n_gtr x1 mx T1 T0) (TL.b (.hd .u2) (CT.ifd m0 (fun c60 => ?_) (fun c60 => ?_))))))
   ·
    exact CT.sub .u1 (CT.region (TL.m m1 (TL.rm .h4 (TL.a m0 (TL.x (.hd .u1) (EX.meet x1 (.inl ⟨c60, rfl⟩) (.refl _) (.sl 0 10 rfl)))))))
   exact CT.z (EX.meet mx (.inr ⟨c60, rfl⟩) (.refl _) (.cons m3 (.cons m0 (.cons m1 (.cons m2 (.sl 4 6 rfl))))))
  rintro mx2 hmx2
  have hcx := hI3 x1 (by omega)
  have hcl : (ls.take k).count x1 ≤ 1000 := Nat.le_trans List.count_le_length (by rw [List.length_take]; omega)
  exact CT.region (TL.m m2 (TL.val (r_iaa (i := x1) (off' := x1) Tryz.underlying184 Tryz.sizeOf3 T7 T0 rfl (by omega) (by omega)) (TL.val (r_ld (v := (i64 (cnt x1))) Tryz.isAgg3 m0 T0 (by omega) rfl) (TL.val (n_add ((cnt x1)) 1 9223372036854775808 T0 .c) (TL.val (r_iaa (i := x1) (off' := x1) Tryz.underlying184 Tryz.sizeOf3 T10 T3 rfl (by omega) (by omega)) (TL.s (r_st (F' := fun jj => i64 ((updN cnt x1 (((cnt x1) + 1))) jj)) Tryz.sizeOf3 fa_set_i64 a0 T0 T1 (by omega)) (TL.x .u5 (EX.bnormal (EX.seq (CT.region (TL.val (n_add k 1 9223372036854775808 T3 .c) (TL.rm .h4 (TL.m m0 (TL.x (.hd .u1) (EX.fold (A' := (blk cnb 16 (fun jj => i64 (updN cnt x1 (cnt x1 + 1) jj)))) a0 (blk_eq rfl rfl) (EX.again ((k + 1, mn2, mx2, updN cnt x1 (cnt x1 + 1))) (⟨show k + 1 ≤ ls.length by omega, by show MM (ls.take (k + 1)) _ _; rw [htk]; exact hI2.put (by omega) hmn2 hmx2, fun jj hj => by show updN cnt x1 (cnt x1 + 1) jj = (ls.take (k + 1)).count jj; rw [htk, List.count_append, ← hI3 jj hj]; exact cnt_put⟩) (by show ls.length - (k + 1) < ls.length - k; omega) (.refl _) (.eq m0 (by first | rfl | (congr 1 <;> omega) | exact congrArg Value.bool (by simp [*]) ) (.cons m1 (.cons m2 (.sl 4 6 rfl))))))))))))))))))))
 refine CT.sub .u1 (CT.exit (EX.then_exit (EX.then_exit (EX.out (EX.seq (CT.seq (CT.seq ?_)))))))
 obtain rfl : k = ls.length := by omega
 rw [List.take_length] at hI2 hI3
 obtain ⟨hm1, hm2, hm3, hm4⟩ := hI2
 have hmx15 : mx ≤ 15 := by rcases hm2 with h | h; exact Nat.le_trans (Nat.le_of_eq h) (by decide); exact h15 mx h
 refine CT.region (TL.m m1 (TL.val (n_eql mx 0 T0 .c) (TL.b (.hd .u1) (CT.ifd m0 (fun c69 => ?_) (fun c69 => ?_)))))
 ·
  exact CT.y (TL.rm .h6 (TL.val (r_asg .c) (TL.e (CT.ret (EX.then_ret (EX.perm p2 (EX.perm p2 (EX.end_ (.inl rfl) (res1 Tryz.results111 m0) (fun _ hS => ⟨rfl, hS.two1⟩)))))))))
 have hmx0 : mx = 0 := by rcases hm2 with h | h; exact h; exact h0 mx h
 exfalso; omega
theorem t111_over {b n off : Nat} {F T : Nat → Value} (hn : off + 515 ≤ n) (hT : TOk T) (A : HProp) (ls : List Nat) (lb lo lc : Nat) (hR : ∀ {G w : World} {L : List HProp}, A ∈ L → Sat G w L → ∀ j x, ls[j]? = some x → w.cell? ⟨lb, lo + j, none⟩ = some (i64 x)) (hls : ls.length ≤ 1000) (h15 : ∀ x ∈ ls, x ≤ 15) (hF : Over ls) {G : World} {R : List HProp} {w : World}
 (hS : Sat G w (blk b n (tabf F off T) :: A :: R)) : CallsR Tryz.prog 111 #[pt b off, .slice (some ⟨lb, lo, none⟩) ls.length lc] w (fun v w' => v = .bool false ∧ Sat G w' (blk b n (tabf F off (hc 0 (fun _ => 0) (.slice none 0 0) 0)) :: A :: R)) := by
 obtain ⟨mz, hmz, hmz1⟩ := hT.min (F := F) (off := off)
 refine calls_in (n := 317) [(0, (pt b off)), (1, (.slice (some ⟨lb, lo, none⟩) ls.length lc))] Tryz.func111 rfl rfl hS args2 ?_
 refine CT.q (TL.val (r_asg .c) (TL.e (CT.cut (X := Unit) (fun gx => [(4, (.bool false)), (0, (pt b off)), (1, (.slice (some ⟨lb, lo, none⟩) ls.length lc))]) (fun gx => (blk b n (tabf F off (hc 0 (fun _ => 0) (.slice none 0 0) 0))) :: A :: R) (fun gx => True) ?_ ?_)))
 ·
  refine CT.q (TL.m m1 (TL.c m0 (TL.f off fo_94_0 m0 (TL.val (r_ldc (v := (i64 mz)) Tryz.isAgg3 T0 (fun w hS => (hS.cell m0 (by omega)).trans (congrArg some (tabf_get0a.trans hmz)))) (TL.val (n_neq mz 0 T0 .c) (TL.b (.hd .u4) (CT.ifd m0 (fun c38 => ?_) (fun c38 => ?_))))))))
  ·
   refine CT.sub .u1 (CT.region (TL.m m1 (TL.val (r_build (v := .agg ((List.range 515).map hz).toArray) .nil (fun _ => by rw [← z94]; kernel_rfl)) (TL.c m1 (TL.s (r_stagg (cs := (List.range 515).map hz) Tryz.sizeOf94 T0 T1 (by rw [List.length_map, List.length_range]) (by omega) (fun x hx => hz_one hx)) (TL.conv (fun _ h => h.imp (blk_eq rfl tabf_reset)) ?_))))))
   show TL _ _ _ _ _ _ _ (blk b n (tabf F off (hc 0 (fun _ => 0) (.slice none 0 0) 0)) :: A :: R)
   exact TL.x .u3 (EX.meet () trivial (.refl _) (.sl 0 3 rfl))
  exact CT.z (EX.fold (A' := (blk b n (tabf F off (hc 0 (fun _ => 0) (.slice none 0 0) 0)))) a0 (blk_eq rfl (hmz1 (by omega))) (EX.meet () trivial (.refl _) (.sl 0 3 rfl)))
 rintro ⟨⟩ -
 refine CT.q (TL.w (r_allocz (F := fun jj => i64 ((fun _ => 0) jj)) Tryz.zeroValue184 z184) ?_)
 rintro _ w5 ⟨cnb, rfl, hS⟩
 refine TW.at hS (TL.q (TL.val (r_asg .c) (TL.val (r_asg .c) (TL.e (CT.seq (CT.q (TL.m m5 (TL.val (r_len Tryz.underlying42 T0) (TL.val (r_move .c) (TL.e (CT.block (CT.loop (X := Nat × Nat × Nat × (Nat → Nat)) (fun gx => [(44, (i64 gx.1)), (7, (i64 gx.2.2.1)), (6, (i64 gx.2.1)), (43, (i64 ls.length)), (42, (.slice (some ⟨lb, lo, none⟩) ls.length lc)), (5, (pt cnb 0)), (4, (.bool false)), (0, (pt b off)), (1, (.slice (some ⟨lb, lo, none⟩) ls.length lc))]) (fun gx => (blk cnb 16 (fun jj => i64 (gx.2.2.2 jj))) :: blk b n (tabf F off (hc 0 (fun _ => 0) (.slice none 0 0) 0)) :: A :: R) (fun gx => gx.1 ≤ ls.length ∧ MM (ls.take gx.1) gx.2.1 gx.2.2.1 ∧ ∀ jj, 1 ≤ jj → gx.2.2.2 jj = (ls.take gx.1).count jj) (fun gx => ls.length - gx.1) ((0, 0, 0, (fun _ => 0))) (⟨Nat.zero_le _, MM.nil, fun _ _ => rfl⟩) (.refl _) (.cons m0 (.cons m3 (.cons m4 (.cons m1 (.cons m2 (.sl 5 4 rfl)))))) ?_))))))))))))
 rintro ⟨k, mn, mx, cnt⟩ ⟨hI1, hI2, hI3⟩
 replace hI1 : k ≤ ls.length := hI1
 replace hI2 : MM (ls.take k) mn mx := hI2
 replace hI3 : ∀ jj, 1 ≤ jj → cnt jj = (ls.take k).count jj := hI3
 refine CT.q (TL.val (n_lss k ls.length T0 T3) (TL.e (CT.seq (CT.ifd m0 (fun c45 => ?_) (fun c45 => ?_)))))
 ·
  refine CT.z (EX.seq (CT.seq (CT.block (CT.seq ?_))))
  obtain ⟨x1, hx1⟩ : ∃ x1, ls[k]? = some x1 := ⟨_, List.getElem?_eq_getElem c45⟩
  have hx15 : x1 ≤ 15 := h15 x1 (List.mem_of_getElem? hx1)
  have htk : ls.take (k + 1) = ls.take k ++ [x1] := by rw [List.take_add_one, hx1]; rfl
  refine CT.region (TL.val (r_ia (i := k) (off' := lo + k) Tryz.underlying42 Tryz.sizeOf3 T4 T0 rfl (by omega) (by omega)) (TL.val (r_ldc (v := (i64 x1)) Tryz.isAgg3 T0 (fun w hS => hR (by first | exact .head _ | exact .tail _ (.head _) | exact .tail _ (.tail _ (.head _)) | exact .tail _ (.tail _ (.tail _ (.head _))) | exact .tail _ (.tail _ (.tail _ (.tail _ (.head _)))) | exact .tail _ (.tail _ (.tail _ (.tail _ (.tail _ (.head _)))))) hS _ _ hx1)) (TL.a m0 (TL.b (.hd .u2) (CT.seq (CT.q (TL.m m0 (TL.val (n_eql x1 0 T0 .c) (TL.b (.hd .u1) (CT.ifd m0 (fun c49 => ?_) (fun c49 => ?_)))))))))))
  ·
   obtain rfl : x1 = 0 := by omega
   exact CT.sub .u1 (CT.exit (EX.then_exit (EX.out (EX.seq (CT.region (TL.val (n_add k 1 9223372036854775808 T1 .c) (TL.rm .h2 (TL.m m0 (TL.x (.hd .u1) (EX.again ((k + 1, mn, mx, cnt)) (⟨show k + 1 ≤ ls.length by omega, by show MM (ls.take (k + 1)) _ _; rw [htk]; exact hI2.zero, fun jj hj => by show cnt jj = (ls.take (k + 1)).count jj; rw [htk, List.count_append, ← hI3 jj hj]; exact (by rw [List.count_cons_of_ne (by omega)]; rfl)⟩) (by show ls.length - (k + 1) < ls.length - k; omega) (.refl _) (.eq m0 (by first | rfl | (congr 1 <;> omega) | exact congrArg Value.bool (by simp [*]) ) (.sl 2 8 rfl))))))))))))
  refine CT.z (EX.seq (CT.cut (X := Nat) (fun gx => [(6, (i64 gx)), (9, (i64 x1)), (44, (i64 k)), (7, (i64 mx)), (43, (i64 ls.length)), (42, (.slice (some ⟨lb, lo, none⟩) ls.length lc)), (5, (pt cnb 0)), (4, (.bool false)), (0, (pt b off)), (1, (.slice (some ⟨lb, lo, none⟩) ls.length lc))]) (fun gx => (blk cnb 16 (fun jj => i64 (cnt jj))) :: blk b n (tabf F off (hc 0 (fun _ => 0) (.slice none 0 0) 0)) :: A :: R) (fun gx => (mn = 0 ∨ x1 < mn) ∧ gx = x1 ∨ ¬ (mn = 0 ∨ x1 < mn) ∧ gx = mn) ?_ ?_))
  ·
   refine CT.cut (X := Unit) (fun gx => [(56, (.bool (decide (mn = 0 ∨ x1 < mn)))), (9, (i64 x1)), (44, (i64 k)), (7, (i64 mx)), (6, (i64 mn)), (43, (i64 ls.length)), (42, (.slice (some ⟨lb, lo, none⟩) ls.length lc)), (5, (pt cnb 0)), (4, (.bool false)), (0, (pt b off)), (1, (.slice (some ⟨lb, lo, none⟩) ls.length lc))]) (fun gx => (blk cnb 16 (fun jj => i64 (cnt jj))) :: blk b n (tabf F off (hc 0 (fun _ => 0) (.slice none 0 0) 0)) :: A :: R) (fun gx => True) ?_ ?_
   ·
    refine CT.region (TL.m m3 (TL.val (n_eql mn 0 T0 .c) (TL.m m0 ?_)))
    by_cases g52 : mn = 0
    ·
     exact TL.sub (.eq m0 (congrArg Value.bool (decide_eq_true g52)) (.eq m1 (congrArg Value.bool (decide_eq_true g52)) (.cons m2 (.cons m3 (.cons m4 (.cons m5 (.cons m6 (.cons m7 (.cons m8 (.cons m9 (.cons m10 (.cons m11 (.cons m12 .nil))))))))))))) (TL.gn m0 (TL.gn m0 (TL.gn m0 (TL.val (r_pickt T0 .c) (TL.x (.hd .u3) (EX.meet () trivial (.refl _) (.eq m0 (by first | rfl | (congr 1 <;> omega) | exact congrArg Value.bool (by simp [*]) ) (.sl 1 10 rfl))))))))
    exact TL.sub (.eq m0 (congrArg Value.bool (decide_eq_false g52)) (.eq m1 (congrArg Value.bool (decide_eq_false g52)) (.cons m2 (.cons m3 (.cons m4 (.cons m5 (.cons m6 (.cons m7 (.cons m8 (.cons m9 (.cons m10 (.cons m11 (.cons m12 .nil))))))))))))) (TL.gv m0 (r_move T3) (TL.gv m1 (r_move T7) (TL.gv m2 (n_lss x1 mn T1 T0) (TL.val (r_pickf T3 T0) (TL.x (.hd .u6) (EX.meet () trivial (.refl _) (.eq m0 (by first | rfl | (congr 1 <;> omega) | exact congrArg Value.bool (by simp [*]) ) (.sl 1 10 rfl))))))))
   rintro ⟨⟩ -
   refine CT.ifd m0 (fun c56 => ?_) (fun c56 => ?_)
   ·
    exact CT.sub .u1 (CT.region (TL.m m0 (TL.rm .h4 (TL.a m0 (TL.x (.hd .u1) (EX.meet x1 (.inl ⟨c56, rfl⟩) (.refl _) (.sl 0 10 rfl)))))))
   exact CT.z (EX.meet mn (.inr ⟨c56, rfl⟩) (.refl _) (.cons m3 (.cons m0 (.cons m1 (.cons m2 (.sl 4 6 rfl))))))
  rintro mn2 hmn2
  refine CT.cut (X := Nat) (fun gx => [(7, (i64 gx)), (6, (i64 mn2)), (9, (i64 x1)), (44, (i64 k)), (43, (i64 ls.length)), (42, (.slice (some ⟨lb, lo, none⟩) ls.length lc)), (5, (pt cnb 0)), (4, (.bool false)), (0, (pt b off)), (1, (.slice (some ⟨lb, lo, none⟩) ls.length lc))]) (fun gx => (blk cnb 16 (fun jj => i64 (cnt jj))) :: blk b n (tabf F off (hc 0 (fun _ => 0) (.slice none 0 0) 0)) :: A :: R) (fun gx => mx < x1 ∧ gx = x1 ∨ ¬ mx < x1 ∧ gx = mx) ?_ ?_
  ·
   refine CT.q (TL.m m1 (TL.m m4 (TL.val (n_gtr x1 mx T1 T0) (TL.b (.hd .u2) (CT.ifd m0 (fun c60 => ?_) (fun c60 => ?_))))))
   ·
    exact CT.sub .u1 (CT.region (TL.m m1 (TL.rm .h4 (TL.a m0 (TL.x (.hd .u1) (EX.meet x1 (.inl ⟨c60, rfl⟩) (.refl _) (.sl 0 10 rfl)))))))
   exact CT.z (EX.meet mx (.inr ⟨c60, rfl⟩) (.refl _) (.cons m3 (.cons m0 (.cons m1 (.cons m2 (.sl 4 6 rfl))))))
  rintro mx2 hmx2
  have hcx := hI3 x1 (by omega)
  have hcl : (ls.take k).count x1 ≤ 1000 := Nat.le_trans List.count_le_length (by rw [List.length_take]; omega)
  exact CT.region (TL.m m2 (TL.val (r_iaa (i := x1) (off' := x1) Tryz.underlying184 Tryz.sizeOf3 T7 T0 rfl (by omega) (by omega)) (TL.val (r_ld (v := (i64 (cnt x1))) Tryz.isAgg3 m0 T0 (by omega) rfl) (TL.val (n_add ((cnt x1)) 1 9223372036854775808 T0 .c) (TL.val (r_iaa (i := x1) (off' := x1) Tryz.underlying184 Tryz.sizeOf3 T10 T3 rfl (by omega) (by omega)) (TL.s (r_st (F' := fun jj => i64 ((updN cnt x1 (((cnt x1) + 1))) jj)) Tryz.sizeOf3 fa_set_i64 a0 T0 T1 (by omega)) (TL.x .u5 (EX.bnormal (EX.seq (CT.region (TL.val (n_add k 1 9223372036854775808 T3 .c) (TL.rm .h4 (TL.m m0 (TL.x (.hd .u1) (EX.fold (A' := (blk cnb 16 (fun jj => i64 (updN cnt x1 (cnt x1 + 1) jj)))) a0 (blk_eq rfl rfl) (EX.again ((k + 1, mn2, mx2, updN cnt x1 (cnt x1 + 1))) (⟨show k + 1 ≤ ls.length by omega, by show MM (ls.take (k + 1)) _ _; rw [htk]; exact hI2.put (by omega) hmn2 hmx2, fun jj hj => by show updN cnt x1 (cnt x1 + 1) jj = (ls.take (k + 1)).count jj; rw [htk, List.count_append, ← hI3 jj hj]; exact cnt_put⟩) (by show ls.length - (k + 1) < ls.length - k; omega) (.refl _) (.eq m0 (by first | rfl | (congr 1 <;> omega) | exact congrArg Value.bool (by simp [*]) ) (.cons m1 (.cons m2 (.sl 4 6 rfl))))))))))))))))))))
 refine CT.sub .u1 (CT.exit (EX.then_exit (EX.then_exit (EX.out (EX.seq (CT.seq (CT.seq ?_)))))))
 obtain rfl : k = ls.length := by omega
 rw [List.take_length] at hI2 hI3
 obtain ⟨hm1, hm2, hm3, hm4⟩ := hI2
 have hmx15 : mx ≤ 15 := by rcases hm2 with h | h; exact Nat.le_trans (Nat.le_of_eq h) (by decide); exact h15 mx h
 refine CT.region (TL.m m1 (TL.val (n_eql mx 0 T0 .c) (TL.b (.hd .u1) (CT.ifd m0 (fun c69 => ?_) (fun c69 => ?_)))))
 ·
  exact absurd (fun x hx => by have := hm1 x hx; omega) hF.some
 obtain ⟨hn0, hn1, hn2⟩ := hm4 c69
 have hmnx := hm1 mn hn1
 have hC : ∀ jj, mn ≤ jj → cnt jj = ls.count jj := fun jj hj => hI3 jj (by omega)
 refine CT.z (EX.q (TL.val (r_asg .c) (TL.q (TL.w (r_allocz (F := fun jj => i64 ((fun _ => 0) jj)) Tryz.zeroValue184 z184) ?_))))
 rintro _ w11 ⟨nxb, rfl, hS⟩
 refine TW.at hS (TL.e (CT.seq (CT.q (TL.m m4 (TL.a m0 (TL.b (.hd .u1) (CT.block (CT.loop (X := Nat × Nat × (Nat → Nat)) (fun gx => [(12, (i64 gx.1)), (10, (i64 gx.2.1)), (11, (pt nxb 0)), (7, (i64 mx)), (6, (i64 mn)), (5, (pt cnb 0)), (4, (.bool false)), (0, (pt b off)), (1, (.slice (some ⟨lb, lo, none⟩) ls.length lc))]) (fun gx => (blk nxb 16 (fun jj => i64 (gx.2.2 jj))) :: blk cnb 16 (fun jj => i64 (cnt jj)) :: blk b n (tabf F off (hc 0 (fun _ => 0) (.slice none 0 0) 0)) :: A :: R) (fun gx => mn ≤ gx.1 ∧ gx.1 ≤ mx + 1 ∧ gx.2.1 = nx ls gx.1 ∧ ∀ jj, gx.2.2 jj = if mn ≤ jj ∧ jj < gx.1 then 2 * nx ls jj else 0) (fun gx => mx + 1 - gx.1) ((mn, 0, (fun _ => 0))) (⟨Nat.le_refl _, by show mn ≤ mx + 1; omega, (nx_low hn2).symm, fun jj => by show 0 = _; rw [if_neg (by omega)]⟩) (.refl _) (.cons m0 (.cons m2 (.cons m1 (.cons m4 (.cons m5 (.sl 8 4 rfl)))))) ?_))))))))
 rintro ⟨i, code, nxt⟩ ⟨hJ1, hJ2, hJ3, hJ4⟩
 replace hJ1 : mn ≤ i := hJ1
 replace hJ2 : i ≤ mx + 1 := hJ2
 replace hJ3 : code = nx ls i := hJ3
 replace hJ4 : ∀ jj, nxt jj = if mn ≤ jj ∧ jj < i then 2 * nx ls jj else 0 := hJ4
 have hcb := nx_lt (ls := ls) (n := i) (by omega) (by omega)
 have hcl : ls.count i ≤ 1000 := Nat.le_trans List.count_le_length hls
 have hci := hC i hJ1
 refine CT.seq (CT.q (TL.m m0 (TL.m m4 (TL.val (n_leq i mx T1 T0) (TL.b (.hd .u2) (CT.ifd m0 (fun c73 => ?_) (fun c73 => ?_)))))))
 ·
  refine CT.z (EX.seq (CT.seq (CT.block (CT.q (TL.m m1 (TL.val (n_shl code 1 9223372036854775808 T0 .c rfl rfl (by decide) (by omega)) (TL.rm .h3 (TL.a m0 (TL.r (.hd .u2) (TL.m m1 (TL.m m1 (TL.val (r_iaa (i := i) (off' := i) Tryz.underlying184 Tryz.sizeOf3 T4 T1 rfl (by omega) (by omega)) (TL.s (r_st (F' := fun jj => i64 ((updN nxt i ((code * 2 ^ 1))) jj)) Tryz.sizeOf3 fa_set_i64 a0 T0 T1 (by omega)) (TL.b .u3 (CT.region (TL.m m0 (TL.m m2 (TL.val (r_iaa (i := i) (off' := i) Tryz.underlying184 Tryz.sizeOf3 T7 T0 rfl (by omega) (by omega)) (TL.val (r_ld (v := (i64 (cnt i))) Tryz.isAgg3 m1 T0 (by omega) rfl) (TL.val (n_add ((code * 2 ^ 1)) ((cnt i)) 9223372036854775808 T3 T0) (TL.rm .h5 (TL.a m0 (TL.x (.hd .u5) (EX.bnormal (EX.seq (CT.region (TL.m m1 (TL.val (n_add i 1 9223372036854775808 T0 .c) (TL.rm .h3 (TL.a m0 ?_))))))))))))))))))))))))))))))
  exact TL.x (.hd .u2) (EX.fold (A' := (blk nxb 16 (fun jj => i64 (updN nxt i (code * 2 ^ 1) jj)))) a0 (blk_eq rfl rfl) (EX.again ((i + 1, code * 2 ^ 1 + cnt i, updN nxt i (code * 2 ^ 1))) (⟨by show mn ≤ i + 1; omega, by show i + 1 ≤ mx + 1; omega, by show code * 2 ^ 1 + cnt i = nx ls (i + 1); rw [hC i hJ1, nx, if_neg (by omega), ← hJ3]; omega, fun jj => nxt_put hJ1 hJ3 hJ4 jj⟩) (by show mx + 1 - (i + 1) < mx + 1 - i; omega) (.refl _) (.eq m0 (by first | rfl | (congr 1 <;> omega) | exact congrArg Value.bool (by simp [*]) ) (.eq m1 (by first | rfl | (congr 1 <;> omega) | exact congrArg Value.bool (by simp [*]) ) (.sl 2 7 rfl)))))
 refine CT.sub .u1 (CT.exit (EX.then_exit (EX.then_exit (EX.out (EX.seq (CT.seq (CT.seq ?_)))))))
 obtain rfl : i = mx + 1 := by omega
 have hp15 : 2 ^ mx ≤ 2 ^ 15 := Nat.pow_le_pow_right (by decide) hmx15
 have hp1 := Nat.two_pow_pos mx
 have htop := hF.top hm1 hmx15
 rw [← hJ3] at htop
 refine CT.region (TL.m m1 (TL.m m4 (TL.val (n_conv mx 18446744073709551616 ⟨_, Tryz.underlying3⟩ Tryz.underlying90 T0 rfl (by omega)) (TL.val (n_shl 1 mx 9223372036854775808 .c T0 rfl rfl (show _ ≤ 64 by omega) (by omega)) (TL.val (n_neq code ((1 * 2 ^ mx)) T3 T0) (TL.m m0 ?_))))))
 by_cases g91 : ¬ code = (1 * 2 ^ mx)
 ·
  refine TL.sub (.eq m0 (congrArg Value.bool (decide_eq_true g91)) (.eq m1 (congrArg Value.bool (decide_eq_true g91)) (.cons m2 (.cons m3 (.cons m4 (.cons m5 (.cons m6 (.cons m7 (.cons m8 (.cons m9 (.cons m10 (.cons m11 (.cons m12 (.cons m13 (.cons m14 .nil))))))))))))))) (TL.gv m0 (r_move T7) (TL.gv m1 (n_eql code 1 T0 .c) (TL.gv m2 (r_move T0) ?_)))
  by_cases g94 : code = 1
  ·
   exfalso; omega
  refine TL.sub (.eq m0 (congrArg Value.bool (decide_eq_false g94)) (.eq m1 (congrArg Value.bool (decide_eq_false g94)) (.cons m2 (.cons m3 (.cons m4 (.cons m5 (.cons m6 (.cons m7 (.cons m8 (.cons m9 (.cons m10 (.cons m11 (.cons m12 (.cons m13 (.cons m14 (.cons m15 (.cons m16 (.cons m17 .nil)))))))))))))))))) (TL.gn m0 (TL.gn m0 (TL.gv m3 (r_pickf T0 .c) (TL.gv m4 (r_notf T0) (TL.val (r_pickt T5 T0) (TL.b (.hd .u11) (CT.ift m0 ?_)))))))
  exact CT.y (TL.rm .h6 (TL.val (r_asg .c) (TL.e (CT.ret (EX.then_ret (EX.perm p3 (EX.perm p3 (EX.end_ (.inl rfl) (res1 Tryz.results111 m0) (fun _ hS => ⟨rfl, hS.two2⟩)))))))))
 exfalso; omega
theorem t111 {b n off : Nat} {F T : Nat → Value} (hn : off + 515 ≤ n) (hT : TOk T) (A : HProp) (ls : List Nat) (lb lo lc : Nat) (hR : ∀ {G w : World} {L : List HProp}, A ∈ L → Sat G w L → ∀ j x, ls[j]? = some x → w.cell? ⟨lb, lo + j, none⟩ = some (i64 x)) (hls : ls.length ≤ 1000) (h15 : ∀ x ∈ ls, x ≤ 15) (hF : Full ls) {G : World} {R : List HProp} {w : World}
 (hS : Sat G w (blk b n (tabf F off T) :: A :: R)) : CallsR Tryz.prog 111 #[pt b off, .slice (some ⟨lb, lo, none⟩) ls.length lc] w (fun v w' => ∃ t : TD, v = .bool true ∧ TDok ls t (hc t.mn t.C t.lv (2 ^ t.e - 1)) ∧ (t.mn ∈ ls ∧ t.mn ≠ 0 ∧ ∀ k, LOk ls k → t.mn ≤ ls.getD k 0) ∧ Sat G w' (blk b n (tabf F off (hc t.mn t.C t.lv (2 ^ t.e - 1))) :: A :: Lnks t :: R)) := by
 obtain ⟨mz, hmz, hmz1⟩ := hT.min (F := F) (off := off)
 refine calls_in (n := 317) [(0, (pt b off)), (1, (.slice (some ⟨lb, lo, none⟩) ls.length lc))] Tryz.func111 rfl rfl hS args2 ?_
 refine CT.q (TL.val (r_asg .c) (TL.e (CT.cut (X := Unit) (fun gx => [(4, (.bool false)), (0, (pt b off)), (1, (.slice (some ⟨lb, lo, none⟩) ls.length lc))]) (fun gx => (blk b n (tabf F off (hc 0 (fun _ => 0) (.slice none 0 0) 0))) :: A :: R) (fun gx => True) ?_ ?_)))
 ·
  refine CT.q (TL.m m1 (TL.c m0 (TL.f off fo_94_0 m0 (TL.val (r_ldc (v := (i64 mz)) Tryz.isAgg3 T0 (fun w hS => (hS.cell m0 (by omega)).trans (congrArg some (tabf_get0a.trans hmz)))) (TL.val (n_neq mz 0 T0 .c) (TL.b (.hd .u4) (CT.ifd m0 (fun c38 => ?_) (fun c38 => ?_))))))))
  ·
   refine CT.sub .u1 (CT.region (TL.m m1 (TL.val (r_build (v := .agg ((List.range 515).map hz).toArray) .nil (fun _ => by rw [← z94]; kernel_rfl)) (TL.c m1 (TL.s (r_stagg (cs := (List.range 515).map hz) Tryz.sizeOf94 T0 T1 (by rw [List.length_map, List.length_range]) (by omega) (fun x hx => hz_one hx)) (TL.conv (fun _ h => h.imp (blk_eq rfl tabf_reset)) ?_))))))
   show TL _ _ _ _ _ _ _ (blk b n (tabf F off (hc 0 (fun _ => 0) (.slice none 0 0) 0)) :: A :: R)
   exact TL.x .u3 (EX.meet () trivial (.refl _) (.sl 0 3 rfl))
  exact CT.z (EX.fold (A' := (blk b n (tabf F off (hc 0 (fun _ => 0) (.slice none 0 0) 0)))) a0 (blk_eq rfl (hmz1 (by omega))) (EX.meet () trivial (.refl _) (.sl 0 3 rfl)))
 rintro ⟨⟩ -
 refine CT.q (TL.w (r_allocz (F := fun jj => i64 ((fun _ => 0) jj)) Tryz.zeroValue184 z184) ?_)
 rintro _ w5 ⟨cnb, rfl, hS⟩
 refine TW.at hS (TL.q (TL.val (r_asg .c) (TL.val (r_asg .c) (TL.e (CT.seq (CT.q (TL.m m5 (TL.val (r_len Tryz.underlying42 T0) (TL.val (r_move .c) (TL.e (CT.block (CT.loop (X := Nat × Nat × Nat × (Nat → Nat)) (fun gx => [(44, (i64 gx.1)), (7, (i64 gx.2.2.1)), (6, (i64 gx.2.1)), (43, (i64 ls.length)), (42, (.slice (some ⟨lb, lo, none⟩) ls.length lc)), (5, (pt cnb 0)), (4, (.bool false)), (0, (pt b off)), (1, (.slice (some ⟨lb, lo, none⟩) ls.length lc))]) (fun gx => (blk cnb 16 (fun jj => i64 (gx.2.2.2 jj))) :: blk b n (tabf F off (hc 0 (fun _ => 0) (.slice none 0 0) 0)) :: A :: R) (fun gx => gx.1 ≤ ls.length ∧ MM (ls.take gx.1) gx.2.1 gx.2.2.1 ∧ ∀ jj, 1 ≤ jj → gx.2.2.2 jj = (ls.take gx.1).count jj) (fun gx => ls.length - gx.1) ((0, 0, 0, (fun _ => 0))) (⟨Nat.zero_le _, MM.nil, fun _ _ => rfl⟩) (.refl _) (.cons m0 (.cons m3 (.cons m4 (.cons m1 (.cons m2 (.sl 5 4 rfl)))))) ?_))))))))))))
 rintro ⟨k, mn, mx, cnt⟩ ⟨hI1, hI2, hI3⟩
 replace hI1 : k ≤ ls.length := hI1
 replace hI2 : MM (ls.take k) mn mx := hI2
 replace hI3 : ∀ jj, 1 ≤ jj → cnt jj = (ls.take k).count jj := hI3
 refine CT.q (TL.val (n_lss k ls.length T0 T3) (TL.e (CT.seq (CT.ifd m0 (fun c45 => ?_) (fun c45 => ?_)))))
 ·
  refine CT.z (EX.seq (CT.seq (CT.block (CT.seq ?_))))
  obtain ⟨x1, hx1⟩ : ∃ x1, ls[k]? = some x1 := ⟨_, List.getElem?_eq_getElem c45⟩
  have hx15 : x1 ≤ 15 := h15 x1 (List.mem_of_getElem? hx1)
  have htk : ls.take (k + 1) = ls.take k ++ [x1] := by rw [List.take_add_one, hx1]; rfl
  refine CT.region (TL.val (r_ia (i := k) (off' := lo + k) Tryz.underlying42 Tryz.sizeOf3 T4 T0 rfl (by omega) (by omega)) (TL.val (r_ldc (v := (i64 x1)) Tryz.isAgg3 T0 (fun w hS => hR (by first | exact .head _ | exact .tail _ (.head _) | exact .tail _ (.tail _ (.head _)) | exact .tail _ (.tail _ (.tail _ (.head _))) | exact .tail _ (.tail _ (.tail _ (.tail _ (.head _)))) | exact .tail _ (.tail _ (.tail _ (.tail _ (.tail _ (.head _)))))) hS _ _ hx1)) (TL.a m0 (TL.b (.hd .u2) (CT.seq (CT.q (TL.m m0 (TL.val (n_eql x1 0 T0 .c) (TL.b (.hd .u1) (CT.ifd m0 (fun c49 => ?_) (fun c49 => ?_)))))))))))
  ·
   obtain rfl : x1 = 0 := by omega
   exact CT.sub .u1 (CT.exit (EX.then_exit (EX.out (EX.seq (CT.region (TL.val (n_add k 1 9223372036854775808 T1 .c) (TL.rm .h2 (TL.m m0 (TL.x (.hd .u1) (EX.again ((k + 1, mn, mx, cnt)) (⟨show k + 1 ≤ ls.length by omega, by show MM (ls.take (k + 1)) _ _; rw [htk]; exact hI2.zero, fun jj hj => by show cnt jj = (ls.take (k + 1)).count jj; rw [htk, List.count_append, ← hI3 jj hj]; exact (by rw [List.count_cons_of_ne (by omega)]; rfl)⟩) (by show ls.length - (k + 1) < ls.length - k; omega) (.refl _) (.eq m0 (by first | rfl | (congr 1 <;> omega) | exact congrArg Value.bool (by simp [*]) ) (.sl 2 8 rfl))))))))))))
  refine CT.z (EX.seq (CT.cut (X := Nat) (fun gx => [(6, (i64 gx)), (9, (i64 x1)), (44, (i64 k)), (7, (i64 mx)), (43, (i64 ls.length)), (42, (.slice (some ⟨lb, lo, none⟩) ls.length lc)), (5, (pt cnb 0)), (4, (.bool false)), (0, (pt b off)), (1, (.slice (some ⟨lb, lo, none⟩) ls.length lc))]) (fun gx => (blk cnb 16 (fun jj => i64 (cnt jj))) :: blk b n (tabf F off (hc 0 (fun _ => 0) (.slice none 0 0) 0)) :: A :: R) (fun gx => (mn = 0 ∨ x1 < mn) ∧ gx = x1 ∨ ¬ (mn = 0 ∨ x1 < mn) ∧ gx = mn) ?_ ?_))
  ·
   refine CT.cut (X := Unit) (fun gx => [(56, (.bool (decide (mn = 0 ∨ x1 < mn)))), (9, (i64 x1)), (44, (i64 k)), (7, (i64 mx)), (6, (i64 mn)), (43, (i64 ls.length)), (42, (.slice (some ⟨lb, lo, none⟩) ls.length lc)), (5, (pt cnb 0)), (4, (.bool false)), (0, (pt b off)), (1, (.slice (some ⟨lb, lo, none⟩) ls.length lc))]) (fun gx => (blk cnb 16 (fun jj => i64 (cnt jj))) :: blk b n (tabf F off (hc 0 (fun _ => 0) (.slice none 0 0) 0)) :: A :: R) (fun gx => True) ?_ ?_
   ·
    refine CT.region (TL.m m3 (TL.val (n_eql mn 0 T0 .c) (TL.m m0 ?_)))
    by_cases g52 : mn = 0
    ·
     exact TL.sub (.eq m0 (congrArg Value.bool (decide_eq_true g52)) (.eq m1 (congrArg Value.bool (decide_eq_true g52)) (.cons m2 (.cons m3 (.cons m4 (.cons m5 (.cons m6 (.cons m7 (.cons m8 (.cons m9 (.cons m10 (.cons m11 (.cons m12 .nil))))))))))))) (TL.gn m0 (TL.gn m0 (TL.gn m0 (TL.val (r_pickt T0 .c) (TL.x (.hd .u3) (EX.meet () trivial (.refl _) (.eq m0 (by first | rfl | (congr 1 <;> omega) | exact congrArg Value.bool (by simp [*]) ) (.sl 1 10 rfl))))))))
    exact TL.sub (.eq m0 (congrArg Value.bool (decide_eq_false g52)) (.eq m1 (congrArg Value.bool (decide_eq_false g52)) (.cons m2 (.cons m3 (.cons m4 (.cons m5 (.cons m6 (.cons m7 (.cons m8 (.cons m9 (.cons m10 (.cons m11 (.cons m12 .nil))))))))))))) (TL.gv m0 (r_move T3) (TL.gv m1 (r_move T7) (TL.gv m2 (n_lss x1 mn T1 T0) (TL.val (r_pickf T3 T0) (TL.x (.hd .u6) (EX.meet () trivial (.refl _) (.eq m0 (by first | rfl | (congr 1 <;> omega) | exact congrArg Value.bool (by simp [*]) ) (.sl 1 10 rfl))))))))
   rintro ⟨⟩ -
   refine CT.ifd m0 (fun c56 => ?_) (fun c56 => ?_)
   ·
    exact CT.sub .u1 (CT.region (TL.m m0 (TL.rm .h4 (TL.a m0 (TL.x (.hd .u1) (EX.meet x1 (.inl ⟨c56, rfl⟩) (.refl _) (.sl 0 10 rfl)))))))
   exact CT.z (EX.meet mn (.inr ⟨c56, rfl⟩) (.refl _) (.cons m3 (.cons m0 (.cons m1 (.cons m2 (.sl 4 6 rfl))))))
  rintro mn2 hmn2
  refine CT.cut (X := Nat) (fun gx => [(7, (i64 gx)), (6, (i64 mn2)), (9, (i64 x1)), (44, (i64 k)), (43, (i64 ls.length)), (42, (.slice (some ⟨lb, lo, none⟩) ls.length lc)), (5, (pt cnb 0)), (4, (.bool false)), (0, (pt b off)), (1, (.slice (some ⟨lb, lo, none⟩) ls.length lc))]) (fun gx => (blk cnb 16 (fun jj => i64 (cnt jj))) :: blk b n (tabf F off (hc 0 (fun _ => 0) (.slice none 0 0) 0)) :: A :: R) (fun gx => mx < x1 ∧ gx = x1 ∨ ¬ mx < x1 ∧ gx = mx) ?_ ?_
  ·
   refine CT.q (TL.m m1 (TL.m m4 (TL.val (n_gtr x1 mx T1 T0) (TL.b (.hd .u2) (CT.ifd m0 (fun c60 => ?_) (fun c60 => ?_))))))
   ·
    exact CT.sub .u1 (CT.region (TL.m m1 (TL.rm .h4 (TL.a m0 (TL.x (.hd .u1) (EX.meet x1 (.inl ⟨c60, rfl⟩) (.refl _) (.sl 0 10 rfl)))))))
   exact CT.z (EX.meet mx (.inr ⟨c60, rfl⟩) (.refl _) (.cons m3 (.cons m0 (.cons m1 (.cons m2 (.sl 4 6 rfl))))))
  rintro mx2 hmx2
  have hcx := hI3 x1 (by omega)
  have hcl : (ls.take k).count x1 ≤ 1000 := Nat.le_trans List.count_le_length (by rw [List.length_take]; omega)
  exact CT.region (TL.m m2 (TL.val (r_iaa (i := x1) (off' := x1) Tryz.underlying184 Tryz.sizeOf3 T7 T0 rfl (by omega) (by omega)) (TL.val (r_ld (v := (i64 (cnt x1))) Tryz.isAgg3 m0 T0 (by omega) rfl) (TL.val (n_add ((cnt x1)) 1 9223372036854775808 T0 .c) (TL.val (r_iaa (i := x1) (off' := x1) Tryz.underlying184 Tryz.sizeOf3 T10 T3 rfl (by omega) (by omega)) (TL.s (r_st (F' := fun jj => i64 ((updN cnt x1 (((cnt x1) + 1))) jj)) Tryz.sizeOf3 fa_set_i64 a0 T0 T1 (by omega)) (TL.x .u5 (EX.bnormal (EX.seq (CT.region (TL.val (n_add k 1 9223372036854775808 T3 .c) (TL.rm .h4 (TL.m m0 (TL.x (.hd .u1) (EX.fold (A' := (blk cnb 16 (fun jj => i64 (updN cnt x1 (cnt x1 + 1) jj)))) a0 (blk_eq rfl rfl) (EX.again ((k + 1, mn2, mx2, updN cnt x1 (cnt x1 + 1))) (⟨show k + 1 ≤ ls.length by omega, by show MM (ls.take (k + 1)) _ _; rw [htk]; exact hI2.put (by omega) hmn2 hmx2, fun jj hj => by show updN cnt x1 (cnt x1 + 1) jj = (ls.take (k + 1)).count jj; rw [htk, List.count_append, ← hI3 jj hj]; exact cnt_put⟩) (by show ls.length - (k + 1) < ls.length - k; omega) (.refl _) (.eq m0 (by first | rfl | (congr 1 <;> omega) | exact congrArg Value.bool (by simp [*]) ) (.cons m1 (.cons m2 (.sl 4 6 rfl))))))))))))))))))))
 refine CT.sub .u1 (CT.exit (EX.then_exit (EX.then_exit (EX.out (EX.seq (CT.seq (CT.seq ?_)))))))
 obtain rfl : k = ls.length := by omega
 rw [List.take_length] at hI2 hI3
 obtain ⟨hm1, hm2, hm3, hm4⟩ := hI2
 have hmx15 : mx ≤ 15 := by rcases hm2 with h | h; exact Nat.le_trans (Nat.le_of_eq h) (by decide); exact h15 mx h
 refine CT.region (TL.m m1 (TL.val (n_eql mx 0 T0 .c) (TL.b (.hd .u1) (CT.ifd m0 (fun c69 => ?_) (fun c69 => ?_)))))
 ·
  exact absurd (fun x hx => by have := hm1 x hx; omega) hF.some
 obtain ⟨hn0, hn1, hn2⟩ := hm4 c69
 have hmnx := hm1 mn hn1
 have hC : ∀ jj, mn ≤ jj → cnt jj = ls.count jj := fun jj hj => hI3 jj (by omega)
 refine CT.z (EX.q (TL.val (r_asg .c) (TL.q (TL.w (r_allocz (F := fun jj => i64 ((fun _ => 0) jj)) Tryz.zeroValue184 z184) ?_))))
 rintro _ w11 ⟨nxb, rfl, hS⟩
 refine TW.at hS (TL.e (CT.seq (CT.q (TL.m m4 (TL.a m0 (TL.b (.hd .u1) (CT.block (CT.loop (X := Nat × Nat × (Nat → Nat)) (fun gx => [(12, (i64 gx.1)), (10, (i64 gx.2.1)), (11, (pt nxb 0)), (7, (i64 mx)), (6, (i64 mn)), (5, (pt cnb 0)), (4, (.bool false)), (0, (pt b off)), (1, (.slice (some ⟨lb, lo, none⟩) ls.length lc))]) (fun gx => (blk nxb 16 (fun jj => i64 (gx.2.2 jj))) :: blk cnb 16 (fun jj => i64 (cnt jj)) :: blk b n (tabf F off (hc 0 (fun _ => 0) (.slice none 0 0) 0)) :: A :: R) (fun gx => mn ≤ gx.1 ∧ gx.1 ≤ mx + 1 ∧ gx.2.1 = nx ls gx.1 ∧ ∀ jj, gx.2.2 jj = if mn ≤ jj ∧ jj < gx.1 then 2 * nx ls jj else 0) (fun gx => mx + 1 - gx.1) ((mn, 0, (fun _ => 0))) (⟨Nat.le_refl _, by show mn ≤ mx + 1; omega, (nx_low hn2).symm, fun jj => by show 0 = _; rw [if_neg (by omega)]⟩) (.refl _) (.cons m0 (.cons m2 (.cons m1 (.cons m4 (.cons m5 (.sl 8 4 rfl)))))) ?_))))))))
 rintro ⟨i, code, nxt⟩ ⟨hJ1, hJ2, hJ3, hJ4⟩
 replace hJ1 : mn ≤ i := hJ1
 replace hJ2 : i ≤ mx + 1 := hJ2
 replace hJ3 : code = nx ls i := hJ3
 replace hJ4 : ∀ jj, nxt jj = if mn ≤ jj ∧ jj < i then 2 * nx ls jj else 0 := hJ4
 have hcb := nx_lt (ls := ls) (n := i) (by omega) (by omega)
 have hcl : ls.count i ≤ 1000 := Nat.le_trans List.count_le_length hls
 have hci := hC i hJ1
 refine CT.seq (CT.q (TL.m m0 (TL.m m4 (TL.val (n_leq i mx T1 T0) (TL.b (.hd .u2) (CT.ifd m0 (fun c73 => ?_) (fun c73 => ?_)))))))
 ·
  refine CT.z (EX.seq (CT.seq (CT.block (CT.q (TL.m m1 (TL.val (n_shl code 1 9223372036854775808 T0 .c rfl rfl (by decide) (by omega)) (TL.rm .h3 (TL.a m0 (TL.r (.hd .u2) (TL.m m1 (TL.m m1 (TL.val (r_iaa (i := i) (off' := i) Tryz.underlying184 Tryz.sizeOf3 T4 T1 rfl (by omega) (by omega)) (TL.s (r_st (F' := fun jj => i64 ((updN nxt i ((code * 2 ^ 1))) jj)) Tryz.sizeOf3 fa_set_i64 a0 T0 T1 (by omega)) (TL.b .u3 (CT.region (TL.m m0 (TL.m m2 (TL.val (r_iaa (i := i) (off' := i) Tryz.underlying184 Tryz.sizeOf3 T7 T0 rfl (by omega) (by omega)) (TL.val (r_ld (v := (i64 (cnt i))) Tryz.isAgg3 m1 T0 (by omega) rfl) (TL.val (n_add ((code * 2 ^ 1)) ((cnt i)) 9223372036854775808 T3 T0) (TL.rm .h5 (TL.a m0 (TL.x (.hd .u5) (EX.bnormal (EX.seq (CT.region (TL.m m1 (TL.val (n_add i 1 9223372036854775808 T0 .c) (TL.rm .h3 (TL.a m0 ?_))))))))))))))))))))))))))))))
  exact TL.x (.hd .u2) (EX.fold (A' := (blk nxb 16 (fun jj => i64 (updN nxt i (code * 2 ^ 1) jj)))) a0 (blk_eq rfl rfl) (EX.again ((i + 1, code * 2 ^ 1 + cnt i, updN nxt i (code * 2 ^ 1))) (⟨by show mn ≤ i + 1; omega, by show i + 1 ≤ mx + 1; omega, by show code * 2 ^ 1 + cnt i = nx ls (i + 1); rw [hC i hJ1, nx, if_neg (by omega), ← hJ3]; omega, fun jj => nxt_put hJ1 hJ3 hJ4 jj⟩) (by show mx + 1 - (i + 1) < mx + 1 - i; omega) (.refl _) (.eq m0 (by first | rfl | (congr 1 <;> omega) | exact congrArg Value.bool (by simp [*]) ) (.eq m1 (by first | rfl | (congr 1 <;> omega) | exact congrArg Value.bool (by simp [*]) ) (.sl 2 7 rfl)))))
 refine CT.sub .u1 (CT.exit (EX.then_exit (EX.then_exit (EX.out (EX.seq (CT.seq (CT.seq ?_)))))))
 obtain rfl : i = mx + 1 := by omega
 have hp15 : 2 ^ mx ≤ 2 ^ 15 := Nat.pow_le_pow_right (by decide) hmx15
 have hp1 := Nat.two_pow_pos mx
 have htop := hF.top hm1 hmx15
 rw [← hJ3] at htop
 refine CT.region (TL.m m1 (TL.m m4 (TL.val (n_conv mx 18446744073709551616 ⟨_, Tryz.underlying3⟩ Tryz.underlying90 T0 rfl (by omega)) (TL.val (n_shl 1 mx 9223372036854775808 .c T0 rfl rfl (show _ ≤ 64 by omega) (by omega)) (TL.val (n_neq code ((1 * 2 ^ mx)) T3 T0) (TL.m m0 ?_))))))
 by_cases g91 : ¬ code = (1 * 2 ^ mx)
 ·
  exfalso; omega
 refine TL.sub (.eq m0 (congrArg Value.bool (decide_eq_false g91)) (.eq m1 (congrArg Value.bool (decide_eq_false g91)) (.cons m2 (.cons m3 (.cons m4 (.cons m5 (.cons m6 (.cons m7 (.cons m8 (.cons m9 (.cons m10 (.cons m11 (.cons m12 (.cons m13 (.cons m14 .nil))))))))))))))) (TL.gn m0 (TL.gn m0 (TL.gnu m0 (TL.gu m0 (TL.gu m1 (TL.gn m3 (TL.gn m3 (TL.val (r_pickf T3 .c) (TL.b (.hd .u9) (CT.iff_ m0 ?_))))))))))
 refine CT.z (EX.q (TL.m m7 (TL.m m5 (TL.c m1 (TL.f off fo_94_0 m0 (TL.s (r_st (F' := tabf F off (hc mn (fun _ => 0) (.slice none 0 0) 0)) Tryz.sizeOf3 tabf_set0 a2 T0 T2 (by omega)) (TL.b .u4 (CT.cut (X := (Nat → Nat) × Value × Nat × Nat) (fun gx => [(12, (i64 (mx + 1))), (10, (i64 code)), (11, (pt nxb 0)), (7, (i64 mx)), (6, (i64 mn)), (5, (pt cnb 0)), (4, (.bool false)), (0, (pt b off)), (1, (.slice (some ⟨lb, lo, none⟩) ls.length lc))]) (fun gx => (blk b n (tabf F off (hc mn gx.1 gx.2.1 (2 ^ gx.2.2.2 - 1)))) :: blk nxb 16 (fun jj => i64 (nxt jj)) :: blk cnb 16 (fun jj => i64 (cnt jj)) :: A :: Lnks ⟨0, fun _ => 0, (fun _ _ => 0), gx.2.2.1, gx.2.2.2, gx.2.1⟩ :: R) (fun gx => TabI ls 0 gx.2.2.2 (9 < mx) gx.1 (fun _ _ => 0) ∧ (9 < mx → gx.2.2.1 = 512 - nx ls 10 ∧ gx.2.2.2 = mx - 9) ∧ (¬ 9 < mx → gx.2.2.1 = 0 ∧ gx.2.2.2 = 0)) ?_ ?_))))))))
 ·
  refine CT.q (TL.m m3 (TL.val (n_gtr mx 9 T0 .c) (TL.b (.hd .u1) (CT.ifd m0 (fun c105 => ?_) (fun c105 => ?_)))))
  ·
   have hlk : nxt 10 = 2 * nx ls 10 := by rw [hJ4 10]; by_cases h : mn ≤ 10; (rw [if_pos (by omega)]); (rw [if_neg (by omega), nx_low (fun x hx h0 => by have := hn2 x hx h0; omega)])
   have hne : 2 ^ (mx - 9) ≤ 2 ^ 6 := Nat.pow_le_pow_right (by decide) (by omega)
   have hne1 := Nat.two_pow_pos (mx - 9)
   have hl512 : nx ls 10 ≤ 512 := by have := link_le hF hm1 hmx15 c105; exact this
   obtain ⟨lk, hlkd⟩ : ∃ lk, lk = nx ls 10 := ⟨_, rfl⟩
   refine CT.y (TL.m m3 (TL.val (n_conv mx 18446744073709551616 ⟨_, Tryz.underlying3⟩ Tryz.underlying90 T0 rfl (by omega)) (TL.val (n_sub mx 9 18446744073709551616 T0 .c) (TL.val (n_shl 1 ((mx - 9)) 9223372036854775808 .c T0 rfl rfl (show _ ≤ 64 by omega) (by omega)) (TL.a m0 (TL.sub (.hd .u4) (TL.r (.eq m0 (congrArg (fun z : Nat => Value.int .i64 (z : Int)) (Nat.one_mul _)) (.cons m1 (.cons m2 (.cons m3 (.cons m4 (.cons m5 (.cons m6 (.cons m7 (.cons m8 (.cons m9 .nil)))))))))) (TL.m m8 (TL.m m1 (TL.val (n_sub ((2 ^ (mx - 9))) 1 9223372036854775808 T0 .c) (TL.val (n_conv (((2 ^ (mx - 9)) - 1)) 4294967296 ⟨_, Tryz.underlying3⟩ Tryz.underlying89 T0 rfl (by omega)) (TL.c m3 (TL.val (r_fa (off' := off + 514) fo_94_3 T0) (TL.s (r_st (F' := tabf F off (hc mn (fun _ => 0) (.slice none 0 0) (((2 ^ (mx - 9)) - 1)))) Tryz.sizeOf89 tabf_setM a2 T0 T2 (by omega)) (TL.r .u6 (TL.val (r_iaa (i := 10) (off' := 10) Tryz.underlying184 Tryz.sizeOf3 T3 .c rfl (by omega) rfl) (TL.val (r_ld (v := (i64 (nxt 10))) Tryz.isAgg3 m0 T0 (by omega) rfl) (TL.val (n_shr ((nxt 10)) 1 T0 .c rfl rfl (by decide)) (TL.a m0 (TL.sub (.hd .u3) (TL.r (.eq m0 (congrArg (fun z : Nat => Value.int .i64 (z : Int)) (show nxt 10 / 2 ^ 1 = lk by rw [hlk, hlkd]; omega)) (.cons m1 (.cons m2 (.cons m3 (.cons m4 (.cons m5 (.cons m6 (.cons m7 (.cons m8 (.cons m9 (.cons m10 .nil))))))))))) (TL.m m9 (TL.m m1 (TL.val (n_sub 512 lk 9223372036854775808 .c T0) (TL.w (r_make (l := (512 - lk)) (c := (512 - lk)) Tryz.underlying92 Tryz.sizeOf186 ⟨_, Tryz.typeInfo186, rfl⟩ Tryz.zeroValue186 rfl T0 T0 rfl rfl (by omega) (by show (512 - lk) * 24 ≤ 281474976710656; omega) (by omega)) ?_)))))))))))))))))))))))))
   rintro _ w122 ⟨b122, rfl, hS⟩
   refine TW.at hS (TL.c m3 (TL.val (r_fa (off' := off + 513) fo_94_2 T0) (TL.s (r_st (F' := tabf F off (hc mn (fun _ => 0) (.slice (some ⟨b122, 0, none⟩) ((512 - lk)) ((512 - lk))) (((2 ^ (mx - 9)) - 1)))) Tryz.sizeOf92 tabf_setL a3 T0 T2 (by omega)) (TL.r .u6 (TL.m m0 (TL.val (n_conv lk 18446744073709551616 ⟨_, Tryz.underlying3⟩ Tryz.underlying90 T0 rfl (by omega)) (TL.a m0 (TL.b (.hd .u2) (CT.block (CT.fold (A' := (blk b122 ((512 - lk)) (fun v => if v < lk - lk then .slice (some ⟨(fun _ => 0) v, 0, none⟩) (2 ^ (mx - 9)) (2 ^ (mx - 9)) else .slice none 0 0))) a0 (blk_eq rfl (by funext v; rw [if_neg (by omega)])) (CT.conv (fun w h => Sat.emp (A := (LM (List.range (lk - lk)) (2 ^ (mx - 9)) (fun _ => 0) (fun _ _ => 0))) (lm_nil (by omega)) h) ?_)))))))))))
   refine CT.fold (A' := (blk b n (tabf F off (hc mn (fun _ => 0) (.slice (some ⟨b122, 0, none⟩) ((512 - lk)) ((512 - lk))) (2 ^ (mx - 9) - 1))))) a4 (blk_eq rfl rfl) (CT.perm p5 (CT.perm p4 (CT.perm p4 (CT.perm p3 (CT.perm p4 (CT.perm p5 (CT.loop (X := Nat × (Nat → Nat) × (Nat → Nat)) (fun gx => [(15, (u64 gx.1)), (14, (i64 lk)), (13, (i64 (2 ^ (mx - 9)))), (12, (i64 (mx + 1))), (10, (i64 code)), (11, (pt nxb 0)), (7, (i64 mx)), (6, (i64 mn)), (5, (pt cnb 0)), (4, (.bool false)), (0, (pt b off)), (1, (.slice (some ⟨lb, lo, none⟩) ls.length lc))]) (fun gx => (blk b n (tabf F off (hc mn gx.2.1 (.slice (some ⟨b122, 0, none⟩) ((512 - lk)) ((512 - lk))) (2 ^ (mx - 9) - 1)))) :: blk b122 ((512 - lk)) (fun v => if v < gx.1 - lk then .slice (some ⟨gx.2.2 v, 0, none⟩) (2 ^ (mx - 9)) (2 ^ (mx - 9)) else .slice none 0 0) :: LM (List.range (gx.1 - lk)) (2 ^ (mx - 9)) gx.2.2 (fun _ _ => 0) :: blk nxb 16 (fun jj => i64 (nxt jj)) :: blk cnb 16 (fun jj => i64 (cnt jj)) :: A :: R) (fun gx => lk ≤ gx.1 ∧ gx.1 ≤ 512 ∧ ∀ x, x < 512 → gx.2.1 x = if lk ≤ rv 9 x ∧ rv 9 x < gx.1 then 16 * (rv 9 x - lk) + 10 else 0) (fun gx => 512 - gx.1) ((lk, (fun _ => 0), (fun _ => 0))) (⟨Nat.le_refl _, by show lk ≤ 512; omega, fun x _ => by show 0 = _; rw [if_neg (by omega)]⟩) (.refl _) (.sl 0 12 rfl) ?_)))))))
   rintro ⟨j, C, bs⟩ ⟨hL1, hL2, hL3⟩
   replace hL1 : lk ≤ j := hL1
   replace hL2 : j ≤ 512 := hL2
   replace hL3 : ∀ x, x < 512 → C x = if lk ≤ rv 9 x ∧ rv 9 x < j then 16 * (rv 9 x - lk) + 10 else 0 := hL3
   refine CT.seq (CT.q (TL.m m0 (TL.val (n_lss j 512 T0 .c) (TL.b (.hd .u1) (CT.ifd m0 (fun c128 => ?_) (fun c128 => ?_))))))
   ·
    refine CT.z (EX.seq (CT.seq (CT.block (CT.q (TL.m m0 (TL.val (n_conv j 65536 ⟨_, Tryz.underlying90⟩ Tryz.underlying159 T0 rfl (by omega)) (TL.call (r_call ce_127 (.cons T0 .nil)) (fun w hS => t127 j (by omega) hS) ?_)))))))
    rintro _ w133 ⟨rfl, hS⟩
    refine TW.at hS (TL.val (n_conv ((rv 16 j)) 9223372036854775808 ⟨_, Tryz.underlying159⟩ Tryz.underlying3 T0 rfl (by have := rv_lt 16 j; omega)) (TL.a m0 (TL.r (.hd .u4) (TL.m m0 (TL.val (n_shr ((rv 16 j)) 7 T0 .c rfl rfl (by decide)) (TL.rm .h2 (TL.a m0 (TL.sub (.hd .u2) (TL.r (.eq m0 (congrArg (fun z : Nat => Value.int .i64 (z : Int)) (rv_shr (n := 9) (m := 16) (by decide))) (.cons m1 (.cons m2 (.cons m3 (.cons m4 (.cons m5 (.cons m6 (.cons m7 (.cons m8 (.cons m9 (.cons m10 (.cons m11 (.cons m12 .nil))))))))))))) (TL.m m1 (TL.m m3 (TL.val (n_conv lk 18446744073709551616 ⟨_, Tryz.underlying3⟩ Tryz.underlying90 T0 rfl (by omega)) (TL.val (n_sub j lk 18446744073709551616 T2 T0) (TL.a m0 (TL.b (.hd .u4) (CT.seq (CT.q (TL.val (r_move .c) (TL.gn m0 (TL.gn m0 (TL.gn m0 (TL.gn m0 (TL.gn m0 (TL.gn m0 (TL.gn m0 (TL.val (r_pickf T0 .c) (TL.x (.hd .u1) ?_)))))))))))))))))))))))))))
    refine EX.seq (CT.iff_ m0 ?_)
    refine CT.z (EX.seq (CT.seq ?_))
    have hr9 := rv_lt 9 j
    refine CT.region (TL.m m12 (TL.m m2 (TL.m m2 (TL.val (n_shl ((j - lk)) 4 18446744073709551616 T0 .c rfl rfl (by decide) (by omega)) (TL.val (n_or ((j - lk) * 2 ^ 4) 10 18446744073709551616 T0 .c rfl rfl (by omega) (by omega)) (TL.sub (.eq m0 (congrArg (fun z : Nat => Value.int .u64 (z : Int)) (chunk_or (by decide))) (.cons m1 (.cons m2 (.cons m3 (.cons m4 (.cons m5 (.cons m6 (.cons m7 (.cons m8 (.cons m9 (.cons m10 (.cons m11 (.cons m12 (.cons m13 (.cons m14 (.cons m15 (.cons m16 (.cons m17 (.cons m18 .nil))))))))))))))))))) (TL.val (n_conv ((16 * (j - lk) + 10)) 4294967296 ⟨_, Tryz.underlying90⟩ Tryz.underlying89 T0 rfl (by omega)) (TL.c m5 (TL.val (r_fa (off' := off + 1) fo_94_1 T0) (TL.val (r_iaa (i := (rv 9 j)) (off' := off + 1 + (rv 9 j)) Tryz.underlying91 Tryz.sizeOf89 T0 T6 rfl (by omega) (by omega)) (TL.s (r_st (F' := tabf F off (hc mn ((updN C ((rv 9 j)) ((16 * (j - lk) + 10)))) (.slice (some ⟨b122, 0, none⟩) ((512 - lk)) ((512 - lk))) (2 ^ (mx - 9) - 1))) Tryz.sizeOf89 (tabf_setC (by omega)) a0 T0 T3 (by omega)) (TL.b .u9 (CT.held [(blk b n (tabf F off (hc mn ((updN C ((rv 9 j)) ((16 * (j - lk) + 10)))) (.slice (some ⟨b122, 0, none⟩) ((512 - lk)) ((512 - lk))) (2 ^ (mx - 9) - 1))))] fm ?_)))))))))))))
    refine TH.t 0 rfl (fun w h => h.only m0) (r_move T12) (TH.t 1 rfl (fun w h => h.only m0) (r_nil T0) (TH.t 2 rfl (fun w h => h.only m0) (r_fa (off' := off + 513) fo_94_2 T0) (TH.t 3 rfl (fun w h => h.only m0) (r_ld (v := (.slice (some ⟨b122, 0, none⟩) ((512 - lk)) ((512 - lk)))) Tryz.isAgg92 m0 T0 (by omega) tabf_getL) (TH.t 4 rfl (fun w h => h.only m0) (r_move T4) (TH.t 5 rfl (fun w h => h.only m0) (r_move T9) (TH.oneW 6 (by kernel_rfl) rfl (r_make (l := (2 ^ (mx - 9))) (c := (2 ^ (mx - 9))) Tryz.underlying186 Tryz.sizeOf89 ⟨_, Tryz.typeInfo89, rfl⟩ Tryz.zeroValue89 rfl T0 T0 rfl rfl (by omega) (by show 2 ^ (mx - 9) * 4 ≤ 281474976710656; omega) (by omega)) ?_))))))
    rintro _ w166 ⟨b166, rfl, hS⟩
    refine ⟨hS.only m1, THB.at hS ?_⟩
    refine TH.t 7 rfl (fun w h => h.only m1) (r_ia (i := (j - lk)) (off' := (j - lk)) Tryz.underlying92 Tryz.sizeOf186 T3 T2 rfl (by omega) (by omega)) (TH.oneS 8 (by kernel_rfl) rfl (r_st (F' := fun v => if v < j + 1 - lk then .slice (some ⟨updN bs (j - lk) b166 v, 0, none⟩) (2 ^ (mx - 9)) (2 ^ (mx - 9)) else .slice none 0 0) Tryz.sizeOf186 (lk_put (by omega)) a2 T0 T1 (by omega)) (fun w h => h.only m1) ?_)
    refine TH.done (by kernel_rfl) (EX.sub .u8 (EX.bnormal (EX.seq (CT.region (TL.m m2 (TL.val (n_add j 1 18446744073709551616 T0 .c) (TL.rm .h4 (TL.a m0 (TL.x (.hd .u2) (EX.fold (A' := (blk b n (tabf F off (hc mn (updN C (rv 9 j) (16 * (j - lk) + 10)) (.slice (some ⟨b122, 0, none⟩) ((512 - lk)) ((512 - lk))) (2 ^ (mx - 9) - 1))))) a1 (blk_eq rfl rfl) (EX.perm p3 (EX.perm p1 (EX.conv (fun w h => lm_push (by omega) h) ?_)))))))))))))
    exact EX.perm p5 (EX.perm p5 (EX.perm p5 (EX.perm p3 (EX.perm p5 (EX.perm p5 (EX.again ((j + 1, updN C (rv 9 j) (16 * (j - lk) + 10), updN bs (j - lk) b166)) (⟨by show lk ≤ j + 1; omega, by show j + 1 ≤ 512; omega, fun x hx => ind_put hL1 (by omega) hL3 x hx⟩) (by show 512 - (j + 1) < 512 - j; omega) (.refl _) (.eq m0 (by first | rfl | (congr 1 <;> omega) | exact congrArg Value.bool (by simp [*]) ) (.sl 3 11 rfl))))))))
   obtain rfl : j = 512 := by omega
   refine CT.sub .u1 (CT.exit (EX.then_exit (EX.then_exit (EX.out (EX.perm p2 (EX.perm p2 (EX.conv (fun w h => lnks_close (t := ⟨0, fun _ => 0, fun _ _ => 0, 512 - lk, mx - 9, (.slice (some ⟨b122, 0, none⟩) ((512 - lk)) ((512 - lk)))⟩) rfl (h.imp (blk_ext fun v hv => if_pos (by omega)))) ?_)))))))
   exact EX.perm p4 (EX.perm p4 (EX.perm p4 (EX.perm p4 (EX.meet ((C, (.slice (some ⟨b122, 0, none⟩) ((512 - lk)) ((512 - lk))), 512 - lk, mx - 9)) (⟨TabI.start (ind_end hL3 hlkd c105), fun _ => ⟨by show 512 - lk = _; rw [hlkd], rfl⟩, fun h => absurd c105 h⟩) (.refl _) (.sl 3 9 rfl)))))
  refine CT.z (EX.fold (A' := (blk b n (tabf F off (hc mn (fun _ => 0) (.slice none 0 0) (2 ^ 0 - 1))))) a2 (blk_eq rfl rfl) (EX.conv (fun w h => Sat.emp (A := (Lnks ⟨0, fun _ => 0, (fun _ _ => 0), 0, 0, (.slice none 0 0)⟩)) (.inl rfl) h) ?_))
  exact EX.perm p4 (EX.perm p3 (EX.perm p3 (EX.perm p4 (EX.meet (((fun _ => 0), .slice none 0 0, 0, 0)) (⟨TabI.start (fun jj _ => .inr ⟨fun h => absurd h.1 c105, rfl⟩), fun h => absurd h c105, fun _ => ⟨rfl, rfl⟩⟩) (.refl _) (.sl 0 9 rfl)))))
 rintro ⟨C, lv, nl, e⟩ ⟨hK1, hK2, hK3⟩
 replace hK1 : TabI ls 0 e (9 < mx) C (fun _ _ => 0) := hK1
 replace hK2 : 9 < mx → nl = 512 - nx ls 10 ∧ e = mx - 9 := hK2
 replace hK3 : ¬ 9 < mx → nl = 0 ∧ e = 0 := hK3
 have he6 : e ≤ 6 := by by_cases h : 9 < mx; (have := (hK2 h).2; omega); (have := (hK3 h).2; omega)
 have hep : 2 ^ e ≤ 2 ^ 6 := Nat.pow_le_pow_right (by decide) he6
 have hep1 := Nat.two_pow_pos e
 refine CT.seq (CT.q (TL.m m8 (TL.val (r_len Tryz.underlying42 T0) (TL.val (r_move .c) (TL.e (CT.block (CT.loop (X := Nat × (Nat → Nat) × (Nat → Nat → Nat) × (Nat → Nat)) (fun gx => [(170, (i64 gx.1)), (169, (i64 ls.length)), (168, (.slice (some ⟨lb, lo, none⟩) ls.length lc)), (11, (pt nxb 0)), (7, (i64 mx)), (6, (i64 mn)), (5, (pt cnb 0)), (4, (.bool false)), (0, (pt b off)), (1, (.slice (some ⟨lb, lo, none⟩) ls.length lc))]) (fun gx => (blk b n (tabf F off (hc mn gx.2.1 lv (2 ^ e - 1)))) :: blk nxb 16 (fun jj => i64 (gx.2.2.2 jj)) :: blk cnb 16 (fun jj => i64 (cnt jj)) :: A :: Lnks ⟨0, fun _ => 0, gx.2.2.1, nl, e, lv⟩ :: R) (fun gx => gx.1 ≤ ls.length ∧ TabI ls gx.1 e (9 < mx) gx.2.1 gx.2.2.1 ∧ ∀ jj, mn ≤ jj → jj ≤ mx → gx.2.2.2 jj = 2 * nx ls jj + (ls.take gx.1).count jj) (fun gx => ls.length - gx.1) ((0, C, (fun _ _ => 0), nxt)) (⟨Nat.zero_le _, hK1, fun jj h1 h2 => by show nxt jj = 2 * nx ls jj + 0; rw [hJ4 jj, if_pos (by omega)]; rfl⟩) (.refl _) (.cons m0 (.cons m1 (.cons m2 (.sl 5 7 rfl)))) ?_)))))))
 rintro ⟨k2, C2, LK, nx2⟩ ⟨hO1, hO2, hO3⟩
 replace hO1 : k2 ≤ ls.length := hO1
 replace hO2 : TabI ls k2 e (9 < mx) C2 LK := hO2
 replace hO3 : ∀ jj, mn ≤ jj → jj ≤ mx → nx2 jj = 2 * nx ls jj + (ls.take k2).count jj := hO3
 refine CT.q (TL.val (n_lss k2 ls.length T0 T1) (TL.e (CT.seq (CT.ifd m0 (fun c171 => ?_) (fun c171 => ?_)))))
 ·
  refine CT.z (EX.seq (CT.cut (X := (Nat → Nat) × (Nat → Nat → Nat) × (Nat → Nat)) (fun gx => [(170, (i64 k2)), (169, (i64 ls.length)), (168, (.slice (some ⟨lb, lo, none⟩) ls.length lc)), (11, (pt nxb 0)), (7, (i64 mx)), (6, (i64 mn)), (5, (pt cnb 0)), (4, (.bool false)), (0, (pt b off)), (1, (.slice (some ⟨lb, lo, none⟩) ls.length lc))]) (fun gx => (blk b n (tabf F off (hc mn gx.1 lv (2 ^ e - 1)))) :: blk nxb 16 (fun jj => i64 (gx.2.2 jj)) :: blk cnb 16 (fun jj => i64 (cnt jj)) :: A :: Lnks ⟨0, fun _ => 0, gx.2.1, nl, e, lv⟩ :: R) (fun gx => TabI ls (k2 + 1) e (9 < mx) gx.1 gx.2.1 ∧ ∀ jj, mn ≤ jj → jj ≤ mx → gx.2.2 jj = 2 * nx ls jj + (ls.take (k2 + 1)).count jj) ?_ ?_))
  ·
   refine CT.block (CT.seq ?_)
   obtain ⟨x1, hx1⟩ : ∃ x1, ls[k2]? = some x1 := ⟨_, List.getElem?_eq_getElem c171⟩
   have hx15 : x1 ≤ 15 := h15 x1 (List.mem_of_getElem? hx1)
   have hg : ls.getD k2 0 = x1 := by rw [List.getD_eq_getElem?_getD, hx1]; rfl
   have htk : ls.take (k2 + 1) = ls.take k2 ++ [x1] := by rw [List.take_add_one, hx1]; rfl
   refine CT.region (TL.m m0 (TL.val (r_ia (i := k2) (off' := lo + k2) Tryz.underlying42 Tryz.sizeOf3 T3 T1 rfl (by omega) (by omega)) (TL.val (r_ldc (v := (i64 x1)) Tryz.isAgg3 T0 (fun w hS => hR (by first | exact .head _ | exact .tail _ (.head _) | exact .tail _ (.tail _ (.head _)) | exact .tail _ (.tail _ (.tail _ (.head _))) | exact .tail _ (.tail _ (.tail _ (.tail _ (.head _)))) | exact .tail _ (.tail _ (.tail _ (.tail _ (.tail _ (.head _)))))) hS _ _ hx1)) (TL.a m2 (TL.a m1 (TL.b (.hd (.hd .u3)) (CT.seq (CT.q (TL.m m0 (TL.val (n_eql x1 0 T0 .c) (TL.b (.hd .u1) (CT.ifd m0 (fun c176 => ?_) (fun c176 => ?_)))))))))))))
   ·
    obtain rfl : x1 = 0 := by omega
    exact CT.sub .u1 (CT.exit (EX.then_exit (EX.out (EX.meet ((C2, LK, nx2)) (⟨hO2.skip (fun h => absurd h.2.1 (by rw [hg]; decide)), fun jj h1 h2 => by show nx2 jj = 2 * nx ls jj + (ls.take (k2 + 1)).count jj; rw [htk, List.count_append, List.count_cons_of_ne (by omega), hO3 jj h1 h2]; rfl⟩) (.refl _) (.sl 2 10 rfl)))))
   have hok : LOk ls k2 := LOk.of hx1 (by omega) hx15
   have hmx1 := hm1 x1 (List.mem_of_getElem? hx1)
   have hmn1 := hn2 x1 (List.mem_of_getElem? hx1) c176
   have hcode : nx2 x1 = codeOf ls k2 := by rw [hO3 x1 hmn1 hmx1]; unfold codeOf; rw [hg]
   have hcf := hF.fits k2 hok
   rw [hg] at hcf
   have hp15b : 2 ^ x1 ≤ 2 ^ 15 := Nat.pow_le_pow_right (by decide) hx15
   have hrl := rv_lt x1 (codeOf ls k2)
   have hpx := Nat.two_pow_pos x1
   refine CT.z (EX.q (TL.m m0 (TL.val (r_iaa (i := x1) (off' := x1) Tryz.underlying184 Tryz.sizeOf3 T6 T0 rfl (by omega) (by omega)) (TL.val (r_ld (v := (i64 (nx2 x1))) Tryz.isAgg3 m1 T0 (by omega) rfl) (TL.a m0 (TL.sub (.hd .u3) (TL.r (.eq m0 (congrArg (fun z : Nat => Value.int .i64 (z : Int)) hcode) (.cons m1 (.cons m2 (.cons m3 (.cons m4 (.cons m5 (.cons m6 (.cons m7 (.cons m8 (.cons m9 (.cons m10 (.cons m11 (.cons m12 .nil))))))))))))) (TL.m m1 (TL.val (r_iaa (i := x1) (off' := x1) Tryz.underlying184 Tryz.sizeOf3 T7 T0 rfl (by omega) (by omega)) (TL.val (r_ld (v := (i64 (nx2 x1))) Tryz.isAgg3 m1 T0 (by omega) rfl) (TL.val (n_add ((nx2 x1)) 1 9223372036854775808 T0 .c) (TL.val (r_iaa (i := x1) (off' := x1) Tryz.underlying184 Tryz.sizeOf3 T10 T3 rfl (by omega) (by omega)) (TL.s (r_st (F' := fun jj => i64 ((updN nx2 x1 (((nx2 x1) + 1))) jj)) Tryz.sizeOf3 fa_set_i64 a1 T0 T1 (by omega)) (TL.r .u5 (TL.m m2 (TL.val (n_shl k2 4 9223372036854775808 T0 .c rfl rfl (by decide) (by omega)) (TL.m m3 (TL.val (n_or (k2 * 2 ^ 4) x1 9223372036854775808 T1 T0 rfl rfl (by omega) (by omega)) (TL.sub (.eq m0 (congrArg (fun z : Nat => Value.int .i64 (z : Int)) (chunk_or (by omega))) (.cons m1 (.cons m2 (.cons m3 (.cons m4 (.cons m5 (.cons m6 (.cons m7 (.cons m8 (.cons m9 (.cons m10 (.cons m11 (.cons m12 (.cons m13 (.cons m14 (.cons m15 (.cons m16 .nil))))))))))))))))) (TL.val (n_conv ((16 * k2 + x1)) 4294967296 ⟨_, Tryz.underlying3⟩ Tryz.underlying89 T0 rfl (by omega)) (TL.a m0 (TL.r (.hd .u5) (TL.m m1 (TL.val (n_conv ((codeOf ls k2)) 65536 ⟨_, Tryz.underlying3⟩ Tryz.underlying159 T0 rfl (by omega)) ?_))))))))))))))))))))))))
   refine TL.call (r_call ce_127 (.cons T0 .nil)) (fun w hS => t127 ((codeOf ls k2)) (by omega) hS) ?_
   rintro _ w192 ⟨rfl, hS⟩
   refine TW.at hS (TL.val (n_conv ((rv 16 ((codeOf ls k2)))) 9223372036854775808 ⟨_, Tryz.underlying159⟩ Tryz.underlying3 T0 rfl (by have := rv_lt 16 (codeOf ls k2); omega)) (TL.a m0 (TL.r (.hd .u4) (TL.m m0 (TL.m m4 (TL.val (n_sub 16 x1 9223372036854775808 .c T0) (TL.val (n_conv ((16 - x1)) 18446744073709551616 ⟨_, Tryz.underlying3⟩ Tryz.underlying90 T0 rfl (by omega)) (TL.val (n_shr ((rv 16 ((codeOf ls k2)))) ((16 - x1)) T3 T0 rfl rfl (show 16 - x1 ≤ 64 by omega)) (TL.rm .h5 (TL.a m0 (TL.sub (.hd .u5) (TL.r (.eq m0 (congrArg (fun z : Nat => Value.int .i64 (z : Int)) (rv_shr (by omega))) (.cons m1 (.cons m2 (.cons m3 (.cons m4 (.cons m5 (.cons m6 (.cons m7 (.cons m8 (.cons m9 (.cons m10 (.cons m11 (.cons m12 (.cons m13 (.cons m14 .nil))))))))))))))) (TL.m m3 (TL.val (n_leq x1 9 T0 .c) (TL.b (.hd .u1) (CT.ifd m0 (fun c200 => ?_) (fun c200 => ?_)))))))))))))))))
   ·
    refine CT.y (TL.m m0 (TL.a m0 (TL.b (.hd .u1) (CT.block (CT.fold (A' := (blk nxb 16 (fun jj => i64 ((updN nx2 x1 (nx2 x1 + 1)) jj)))) a1 (blk_eq rfl rfl) (CT.loop (X := Nat × (Nat → Nat)) (fun gx => [(23, (i64 gx.1)), (22, (i64 (rv x1 (codeOf ls k2)))), (21, (u32 (16 * k2 + x1))), (20, (i64 (codeOf ls k2))), (19, (i64 x1)), (18, (i64 k2)), (170, (i64 k2)), (169, (i64 ls.length)), (168, (.slice (some ⟨lb, lo, none⟩) ls.length lc)), (11, (pt nxb 0)), (7, (i64 mx)), (6, (i64 mn)), (5, (pt cnb 0)), (4, (.bool false)), (0, (pt b off)), (1, (.slice (some ⟨lb, lo, none⟩) ls.length lc))]) (fun gx => (blk b n (tabf F off (hc mn gx.2 lv (2 ^ e - 1)))) :: blk nxb 16 (fun jj => i64 ((updN nx2 x1 (nx2 x1 + 1)) jj)) :: blk cnb 16 (fun jj => i64 (cnt jj)) :: A :: Lnks ⟨0, fun _ => 0, LK, nl, e, lv⟩ :: R) (fun gx => gx.1 % 2 ^ x1 = rv x1 (codeOf ls k2) ∧ gx.1 < 512 + 2 ^ x1 ∧ ∀ y, y < 512 → gx.2 y = if y % 2 ^ x1 = rv x1 (codeOf ls k2) ∧ y < gx.1 then 16 * k2 + x1 else C2 y) (fun gx => 512 + 2 ^ x1 - gx.1) ((rv x1 (codeOf ls k2), C2)) (⟨Nat.mod_eq_of_lt hrl, by show _ < _; omega, fun y _ => by show C2 y = _; rw [if_neg (fun h => absurd h.2 (by rw [← h.1]; exact Nat.not_lt.2 (Nat.mod_le _ _)))]⟩) (.refl _) (.eq m0 (by first | rfl | (congr 1 <;> omega) | exact congrArg Value.bool (by simp [*]) ) (.sl 1 15 rfl)) ?_))))))
    rintro ⟨o, C4⟩ ⟨hQ1, hQ2, hQ3⟩
    replace hQ1 : o % 2 ^ x1 = rv x1 (codeOf ls k2) := hQ1
    replace hQ2 : o < 512 + 2 ^ x1 := hQ2
    replace hQ3 : ∀ y, y < 512 → C4 y = if y % 2 ^ x1 = rv x1 (codeOf ls k2) ∧ y < o then 16 * k2 + x1 else C2 y := hQ3
    refine CT.seq (CT.q (TL.m m0 (TL.val (n_lss o 512 T0 .c) (TL.b (.hd .u1) (CT.ifd m0 (fun c203 => ?_) (fun c203 => ?_))))))
    ·
     refine CT.z (EX.seq (CT.seq (CT.block (CT.seq (CT.q (TL.val (r_move .c) (TL.gn m0 (TL.gn m0 (TL.gn m0 (TL.gn m0 (TL.gn m0 (TL.gn m0 (TL.gn m0 (TL.val (r_pickf T0 .c) (TL.b (.hd .u1) (CT.iff_ m0 ?_))))))))))))))))
     exact CT.z (EX.seq (CT.region (TL.m m14 (TL.m m1 (TL.m m4 (TL.c m2 (TL.val (r_fa (off' := off + 1) fo_94_1 T0) (TL.val (r_iaa (i := o) (off' := off + 1 + o) Tryz.underlying91 Tryz.sizeOf89 T0 T3 rfl (by omega) (by omega)) (TL.s (r_st (F' := tabf F off (hc mn ((updN C4 o ((16 * k2 + x1)))) lv (2 ^ e - 1))) Tryz.sizeOf89 (tabf_setC (by omega)) a0 T0 T3 (by omega)) (TL.x .u6 (EX.bnormal (EX.seq (CT.region (TL.m m0 (TL.m m5 (TL.val (n_conv x1 18446744073709551616 ⟨_, Tryz.underlying3⟩ Tryz.underlying90 T0 rfl (by omega)) (TL.val (n_shl 1 x1 9223372036854775808 .c T0 rfl rfl (show _ ≤ 64 by omega) (by omega)) (TL.val (n_add o ((1 * 2 ^ x1)) 9223372036854775808 T3 T0) (TL.rm .h5 (TL.a m0 (TL.x (.hd .u5) (EX.fold (A' := (blk b n (tabf F off (hc mn (updN C4 o (16 * k2 + x1)) lv (2 ^ e - 1))))) a0 (blk_eq rfl rfl) (EX.again ((o + 1 * 2 ^ x1, updN C4 o (16 * k2 + x1))) (⟨by show (o + 1 * 2 ^ x1) % 2 ^ x1 = _; rw [Nat.one_mul, Nat.add_mod_right]; exact hQ1, by show o + 1 * 2 ^ x1 < _; omega, fun y hy => by show updN C4 o _ y = _; rw [Nat.one_mul]; exact fill_put hpx hQ1 (hQ3 y hy)⟩) (by show 512 + 2 ^ x1 - (o + 1 * 2 ^ x1) < 512 + 2 ^ x1 - o; omega) (.refl _) (.eq m0 (by first | rfl | (congr 1 <;> omega) | exact congrArg Value.bool (by simp [*]) ) (.sl 1 15 rfl)))))))))))))))))))))))))
    exact CT.sub .u1 (CT.exit (EX.then_exit (EX.then_exit (EX.out (EX.bnormal (EX.fold (A' := (blk nxb 16 (fun jj => i64 (updN nx2 x1 (nx2 x1 + 1) jj)))) a1 (blk_eq rfl rfl) (EX.meet ((C4, LK, updN nx2 x1 (nx2 x1 + 1))) (⟨hO2.putS hF.fits (by omega) hok (by omega) (fun y hy => by show C4 y = _; rw [hQ3 y hy, hg]; by_cases h : y % 2 ^ x1 = rv x1 (codeOf ls k2); (rw [if_pos ⟨h, by omega⟩, if_pos h]); (rw [if_neg (fun hh => h hh.1), if_neg h])), fun jj h1 h2 => by show updN nx2 x1 (nx2 x1 + 1) jj = 2 * nx ls jj + (ls.take (k2 + 1)).count jj; rw [htk, List.count_append, ← Nat.add_assoc, ← hO3 jj h1 h2]; exact cnt_put⟩) (.refl _) (.sl 6 10 rfl))))))))
   have h9 : 9 < mx := by omega
   obtain ⟨hnl, hee⟩ := hK2 h9
   have hge := long_ge hok (by rw [hg]; omega)
   rw [hg] at hge
   have hpl9 : codeOf ls k2 / 2 ^ (x1 - 9) < 512 := by rw [Nat.div_lt_iff_lt_mul (Nat.two_pow_pos _), show 512 * 2 ^ (x1 - 9) = 2 ^ x1 by rw [show (512 : Nat) = 2 ^ 9 from rfl, ← Nat.pow_add]; congr 1; omega]; exact hcf
   have hrm : rv x1 (codeOf ls k2) % 512 = rv 9 (codeOf ls k2 / 2 ^ (x1 - 9)) := rv_hi (by omega)
   have hrr : rv 9 (rv x1 (codeOf ls k2) % 512) = codeOf ls k2 / 2 ^ (x1 - 9) := by rw [hrm, rv_rv hpl9]
   have hCr := hO2.ind h9 (rv x1 (codeOf ls k2) % 512) (Nat.mod_lt _ (by decide)) (by rw [hrr]; exact hge)
   rw [hrr] at hCr
   have hp9 : 2 ^ (x1 - 9) ≤ 2 ^ 6 := Nat.pow_le_pow_right (by decide) (by omega)
   have hp91 := Nat.two_pow_pos (x1 - 9)
   obtain ⟨pv, hpv⟩ : ∃ pv, pv = codeOf ls k2 / 2 ^ (x1 - 9) - nx ls 10 := ⟨_, rfl⟩
   refine CT.y (TL.m m0 (TL.val (n_and (rv x1 (codeOf ls k2)) 511 9223372036854775808 T0 .c rfl rfl (by omega) (by omega)) (TL.sub (.eq m0 (congrArg (fun z : Nat => Value.int .i64 (z : Int)) (show _ &&& 511 = _ % 512 by rw [show (511 : Nat) = 2 ^ 9 - 1 from rfl, Nat.and_two_pow_sub_one_eq_mod])) (.cons m1 (.cons m2 (.cons m3 (.cons m4 (.cons m5 (.cons m6 (.cons m7 (.cons m8 (.cons m9 (.cons m10 (.cons m11 (.cons m12 (.cons m13 (.cons m14 (.cons m15 (.cons m16 .nil))))))))))))))))) (TL.a m0 (TL.b (.hd .u2) (CT.seq (CT.q (TL.val (r_move .c) (TL.gn m0 (TL.gn m0 (TL.gn m0 (TL.gn m0 (TL.gn m0 (TL.gn m0 (TL.gn m0 (TL.gn m0 (TL.val (r_pickf T0 .c) (TL.b (.hd .u1) (CT.iff_ m0 ?_)))))))))))))))))))
   refine CT.z (EX.q (TL.m m14 (TL.m m1 (TL.c m1 (TL.val (r_fa (off' := off + 1) fo_94_1 T0) (TL.val (r_iaa (i := (rv x1 (codeOf ls k2) % 512)) (off' := off + 1 + (rv x1 (codeOf ls k2) % 512)) Tryz.underlying91 Tryz.sizeOf89 T0 T2 rfl (by omega) (by omega)) (TL.val (r_ld (v := (u32 (C2 ((rv x1 (codeOf ls k2) % 512))))) Tryz.isAgg89 m0 T0 (by omega) (tabf_getC (by omega))) (TL.val (n_shr ((C2 ((rv x1 (codeOf ls k2) % 512)))) 4 T0 .c rfl rfl (by decide)) (TL.a m0 (TL.sub (.hd .u7) (TL.b (.eq m0 (congrArg (fun z : Nat => Value.int .u32 (z : Int)) (show C2 _ / 2 ^ 4 = pv by rw [hCr, hpv]; omega)) (.cons m1 (.cons m2 (.cons m3 (.cons m4 (.cons m5 (.cons m6 (.cons m7 (.cons m8 (.cons m9 (.cons m10 (.cons m11 (.cons m12 (.cons m13 (.cons m14 (.cons m15 (.cons m16 .nil))))))))))))))))) (CT.seq (CT.perm p4 (CT.lnks (t := ⟨0, fun _ => 0, LK, nl, e, lv⟩) (by show nl ≠ 0; omega) ?_))))))))))))))
   intro llb bs hlv
   replace hlv : lv = .slice (some ⟨llb, 0, none⟩) nl nl := hlv
   show CT _ _ _ _ _ _ (blk llb nl (fun v => .slice (some ⟨bs v, 0, none⟩) (2 ^ e) (2 ^ e)) :: LM (List.range nl) (2 ^ e) bs LK :: blk b n (tabf F off (hc mn C2 lv (2 ^ e - 1))) :: blk nxb 16 (fun jj => i64 ((updN nx2 x1 (((nx2 x1) + 1))) jj)) :: blk cnb 16 (fun jj => i64 (cnt jj)) :: A :: R)
   refine CT.region (TL.m m15 (TL.c m0 (TL.val (r_fa (off' := off + 513) fo_94_2 T0) (TL.val (r_ldc (v := (.slice (some ⟨llb, 0, none⟩) nl nl)) Tryz.isAgg92 T0 (fun w hS => (hS.cell m2 (by omega)).trans (congrArg some (tabf_getL.trans hlv)))) (TL.m m4 (TL.val (r_ia (i := pv) (off' := pv) Tryz.underlying92 Tryz.sizeOf186 T1 T0 rfl (by omega) (by omega)) (TL.val (r_ld (v := (.slice (some ⟨(bs pv), 0, none⟩) ((2 ^ e)) ((2 ^ e)))) Tryz.isAgg186 m0 T0 (by omega) rfl) (TL.a m0 (TL.sub (.hd .u7) (TL.perm p1 (TL.conv (fun w h => lm_take (v := pv) (by rw [List.mem_range]; omega) h) (TL.q (TL.m m3 (TL.val (n_shr ((rv x1 (codeOf ls k2))) 9 T0 .c rfl rfl (by decide)) (TL.rm .h5 (TL.a m0 (TL.r (.hd .u2) (TL.m m0 (TL.a m0 (TL.b (.hd .u1) (CT.block ?_)))))))))))))))))))))
   have hr9 : rv x1 (codeOf ls k2) / 512 < 2 ^ (x1 - 9) := by rw [Nat.div_lt_iff_lt_mul (by decide), show 2 ^ (x1 - 9) * 512 = 2 ^ x1 by rw [show (512 : Nat) = 2 ^ 9 from rfl, ← Nat.pow_add]; congr 1; omega]; exact hrl
   refine CT.fold (A' := (blk nxb 16 (fun jj => i64 ((updN nx2 x1 (nx2 x1 + 1)) jj)))) a4 (blk_eq rfl rfl) (CT.fold (A' := (blk (bs pv) (2 ^ e) (fun jj => u32 (LK pv jj)))) a0 (blk_eq rfl rfl) (CT.perm p1 (CT.perm p1 (CT.perm p2 (CT.perm p6 (CT.perm p6 (CT.perm p6 (CT.perm p6 (CT.loop (X := Nat × (Nat → Nat)) (fun gx => [(27, (i64 gx.1)), (22, (i64 ((rv x1 (codeOf ls k2)) / 2 ^ 9))), (26, (.slice (some ⟨(bs pv), 0, none⟩) ((2 ^ e)) ((2 ^ e)))), (25, (u32 pv)), (24, (i64 (rv x1 (codeOf ls k2) % 512))), (21, (u32 (16 * k2 + x1))), (20, (i64 (codeOf ls k2))), (19, (i64 x1)), (18, (i64 k2)), (170, (i64 k2)), (169, (i64 ls.length)), (168, (.slice (some ⟨lb, lo, none⟩) ls.length lc)), (11, (pt nxb 0)), (7, (i64 mx)), (6, (i64 mn)), (5, (pt cnb 0)), (4, (.bool false)), (0, (pt b off)), (1, (.slice (some ⟨lb, lo, none⟩) ls.length lc))]) (fun gx => (blk b n (tabf F off (hc mn C2 lv (2 ^ e - 1)))) :: blk nxb 16 (fun jj => i64 ((updN nx2 x1 (nx2 x1 + 1)) jj)) :: blk cnb 16 (fun jj => i64 (cnt jj)) :: A :: blk llb nl (fun v => .slice (some ⟨bs v, 0, none⟩) (2 ^ e) (2 ^ e)) :: blk (bs pv) (2 ^ e) (fun jj => u32 (gx.2 jj)) :: LMb (List.range nl) (2 ^ e) bs LK pv :: R) (fun gx => gx.1 % 2 ^ (x1 - 9) = rv x1 (codeOf ls k2) / 512 ∧ gx.1 < 2 ^ e + 2 ^ (x1 - 9) ∧ ∀ y, gx.2 y = if y % 2 ^ (x1 - 9) = rv x1 (codeOf ls k2) / 512 ∧ y < gx.1 ∧ y < 2 ^ e then 16 * k2 + x1 else LK pv y) (fun gx => 2 ^ e + 2 ^ (x1 - 9) - gx.1) ((rv x1 (codeOf ls k2) / 2 ^ 9, LK pv)) (⟨Nat.mod_eq_of_lt hr9, by show _ / 512 < _; omega, fun y => by show LK pv y = _; rw [if_neg (fun h => absurd h.2.1 (by show ¬ y < _ / 512; rw [← h.1]; exact Nat.not_lt.2 (Nat.mod_le _ _)))]⟩) (.refl _) (.eq m0 (by first | rfl | (congr 1 <;> omega) | exact congrArg Value.bool (by simp [*]) ) (.sl 1 18 rfl)) ?_)))))))))
   rintro ⟨o, K⟩ ⟨hQ1, hQ2, hQ3⟩
   replace hQ1 : o % 2 ^ (x1 - 9) = rv x1 (codeOf ls k2) / 512 := hQ1
   replace hQ2 : o < 2 ^ e + 2 ^ (x1 - 9) := hQ2
   replace hQ3 : ∀ y, K y = if y % 2 ^ (x1 - 9) = rv x1 (codeOf ls k2) / 512 ∧ y < o ∧ y < 2 ^ e then 16 * k2 + x1 else LK pv y := hQ3
   refine CT.seq (CT.q (TL.m m0 (TL.m m3 (TL.val (r_len Tryz.underlying186 T0) (TL.val (n_lss o ((2 ^ e)) T2 T0) (TL.b (.hd .u3) (CT.ifd m0 (fun c258 => ?_) (fun c258 => ?_))))))))
   ·
    refine CT.z (EX.seq (CT.seq (CT.block (CT.seq (CT.q (TL.val (r_move .c) (TL.gn m0 (TL.gn m0 (TL.gn m0 (TL.gn m0 (TL.gn m0 (TL.val (r_pickf T0 .c) (TL.b (.hd .u1) (CT.iff_ m0 ?_))))))))))))))
    exact CT.z (EX.seq (CT.region (TL.m m2 (TL.m m1 (TL.m m7 (TL.val (r_ia (i := o) (off' := o) Tryz.underlying186 Tryz.sizeOf89 T2 T1 rfl (by omega) (by omega)) (TL.s (r_st (F' := fun jj => u32 ((updN K o ((16 * k2 + x1))) jj)) Tryz.sizeOf89 fa_set_u32 a5 T0 T1 (by omega)) (TL.x .u4 (EX.bnormal (EX.seq (CT.region (TL.m m0 (TL.m m8 (TL.val (n_sub x1 9 9223372036854775808 T0 .c) (TL.val (n_conv ((x1 - 9)) 18446744073709551616 ⟨_, Tryz.underlying3⟩ Tryz.underlying90 T0 rfl (by omega)) (TL.val (n_shl 1 ((x1 - 9)) 9223372036854775808 .c T0 rfl rfl (show _ ≤ 64 by omega) (by omega)) (TL.val (n_add o ((1 * 2 ^ (x1 - 9))) 9223372036854775808 T4 T0) (TL.rm .h6 (TL.a m0 (TL.x (.hd .u6) (EX.fold (A' := (blk (bs pv) (2 ^ e) (fun jj => u32 (updN K o (16 * k2 + x1) jj)))) a5 (blk_eq rfl rfl) (EX.again ((o + 1 * 2 ^ (x1 - 9), updN K o (16 * k2 + x1))) (⟨by show (o + 1 * 2 ^ (x1 - 9)) % 2 ^ (x1 - 9) = _; rw [Nat.one_mul, Nat.add_mod_right]; exact hQ1, by show o + 1 * 2 ^ (x1 - 9) < _; omega, fun y => by show updN K o _ y = _; rw [Nat.one_mul]; exact fill_put2 hp91 (by omega) hQ1 (hQ3 y)⟩) (by show 2 ^ e + 2 ^ (x1 - 9) - (o + 1 * 2 ^ (x1 - 9)) < 2 ^ e + 2 ^ (x1 - 9) - o; omega) (.refl _) (.eq m0 (by first | rfl | (congr 1 <;> omega) | exact congrArg Value.bool (by simp [*]) ) (.sl 1 18 rfl))))))))))))))))))))))))
   refine CT.sub .u1 (CT.exit (EX.then_exit (EX.then_exit (EX.out (EX.bnormal (EX.fold (A' := (blk nxb 16 (fun jj => i64 (updN nx2 x1 (nx2 x1 + 1) jj)))) a1 (blk_eq rfl rfl) (EX.perm p4 (EX.perm p6 (EX.perm p6 (EX.conv (fun w h => lnks_close (t := ⟨0, fun _ => 0, fun v o => if v = pv then K o else LK v o, nl, e, lv⟩) hlv ((lm_put (by rw [List.mem_range]; omega) List.nodup_range h).perm p1)) ?_))))))))))
   exact EX.perm p4 (EX.perm p4 (EX.perm p4 (EX.perm p4 (EX.meet ((C2, (fun v o => if v = pv then K o else LK v o), updN nx2 x1 (nx2 x1 + 1))) (⟨hO2.putL hF.fits (by omega) hok (by omega) (fun v y => by show (if v = pv then K y else LK v y) = _; rw [hg, ← hpv]; by_cases hv : v = pv; (rw [if_pos hv, hQ3 y, hv]; by_cases h : y % 2 ^ (x1 - 9) = rv x1 (codeOf ls k2) / 512 ∧ y < 2 ^ e; (rw [if_pos ⟨h.1, by omega, h.2⟩, if_pos ⟨rfl, h.2, h.1⟩]); (rw [if_neg (fun hh => h ⟨hh.1, hh.2.2⟩), if_neg (fun hh => h ⟨hh.2.2, hh.2.1⟩)])); (rw [if_neg hv, if_neg (fun hh => hv hh.1)])), fun jj h1 h2 => by show updN nx2 x1 (nx2 x1 + 1) jj = 2 * nx ls jj + (ls.take (k2 + 1)).count jj; rw [htk, List.count_append, ← Nat.add_assoc, ← hO3 jj h1 h2]; exact cnt_put⟩) (.refl _) (.sl 9 10 rfl)))))
  rintro ⟨C3, LK3, nx3⟩ ⟨hP, hP2⟩
  replace hP : TabI ls (k2 + 1) e (9 < mx) C3 LK3 := hP
  replace hP2 : ∀ jj, mn ≤ jj → jj ≤ mx → nx3 jj = 2 * nx ls jj + (ls.take (k2 + 1)).count jj := hP2
  exact CT.region (TL.val (n_add k2 1 9223372036854775808 T0 .c) (TL.rm .h1 (TL.m m0 (TL.x (.hd .u1) (EX.again ((k2 + 1, C3, LK3, nx3)) (⟨by show k2 + 1 ≤ ls.length; omega, hP, hP2⟩) (by show ls.length - (k2 + 1) < ls.length - k2; omega) (.refl _) (.eq m0 (by first | rfl | (congr 1 <;> omega) | exact congrArg Value.bool (by simp [*]) ) (.sl 1 9 rfl)))))))
 refine CT.sub .u1 (CT.exit (EX.then_exit (EX.then_exit (EX.out (EX.seq (CT.seq (CT.condf ?_)))))))
 exact CT.skip (EX.q (TL.rm .h7 (TL.val (r_asg .c) (TL.e (CT.ret (EX.perm p4 (EX.perm p4 (EX.perm p2 (EX.end_ (.inl rfl) (res1 Tryz.results111 m0) (fun _ hS => ⟨⟨mn, C2, LK, nl, e, lv⟩, rfl, fin_tab hF hO2 hO1 c171 he6 hm1 h15 hK2 hmnx hmx15, ⟨hn1, hn0, hmn_le hn2⟩, hS.three2⟩))))))))))
end Go.Eng
namespace Go.Eng
open Go Go.Proofs Go.Infl
theorem distAt_of {n k : Nat} (h2 : k ≤ 29) (h3 : distBase k ≤ n) (h4 : n ≤ 32768) (h6 : n < distBase (k + 1) ∨ k = 29) : DistAt n k (n - distBase k) := by
 refine ⟨h2, by omega, ?_⟩
 rcases Nat.lt_or_ge k 29 with h | h
 ·
  have := dist_next k h
  omega
 obtain rfl : k = 29 := by omega
 have e : distBase 29 = 24577 := by decide
 have e2 : (2 : Nat) ^ distExtra 29 = 8192 := by decide
 omega
theorem lenBase_lt : ∀ k, 257 ≤ k → k ≤ 284 → lenBase k ≤ 258 := by
 intro k h1 h2
 have : ∀ j, j < 28 → lenBase (257 + j) ≤ 258 := by decide
 have e := this (k - 257) (by omega)
 rwa [show 257 + (k - 257) = k by omega] at e
theorem lenAt_of {n k : Nat} (h1 : 257 ≤ k) (h2 : k ≤ 284) (h3 : lenBase k ≤ n) (h4 : n ≤ 258) (h5 : ¬ n = 258) (h6 : n < lenBase (k + 1) ∨ k = 284) : LenAt n k (n - lenBase k) := by
 refine ⟨h1, by omega, by omega, ?_, ?_⟩
 ·
  rcases Nat.lt_or_ge k 284 with h | h
  ·
   have := len_next k h h1
   omega
  obtain rfl : k = 284 := by omega
  have e : lenBase 284 = 227 := by decide
  have e2 : (2 : Nat) ^ lenExtra 284 = 32 := by decide
  omega
 rintro ⟨rfl, h⟩
 have e : lenBase 284 = 227 := by decide
 omega
theorem t94 (k : Nat) (h1 : 257 ≤ k) (h2 : k ≤ 285) {G : World} {R : List HProp} {w : World} (hS : Sat G w (R)) :
 CallsR Tryz.prog 94 #[(i64 k)] w (fun v w' => v = .tuple #[i64 (lenBase k), i64 (lenExtra k)] ∧ Sat G w' R) := by
 refine calls_in (n := 35) [(0, (i64 k))] Tryz.func94 rfl rfl hS args1 ?_
 refine CT.q (TL.val (r_asg .c) (TL.val (r_asg .c) (TL.e (CT.seq (CT.block (CT.q (TL.m m2 (TL.val (n_eql k 285 T0 .c) (TL.a m0 (TL.b (.hd .u2) (CT.ifd m0 (fun c5 => ?_) (fun c5 => ?_))))))))))))
 ·
  exact CT.y (TL.rm .h1 (TL.val (r_asg .c) (TL.rm .h1 (TL.val (r_asg .c) (TL.e (CT.ret (EX.bret (EX.then_ret (EX.end_ (.inl rfl) (res2 Tryz.results94 m1 m0) (fun _ hS => ⟨by first | (obtain rfl := (show k = 285 by omega); rfl) | (simp [lenBase, lenExtra, show ¬ k = 285 by omega, show k ≤ 264 by omega]; done) | (simp [lenBase, lenExtra, show ¬ k = 285 by omega, show ¬ k ≤ 264 by omega]; done), hS⟩))))))))))
 refine CT.y (TL.m m2 (TL.val (n_geq k 257 T0 .c) (TL.m m0 ?_)))
 by_cases g11 : 257 ≤ k
 ·
  refine TL.sub (.eq m0 (congrArg Value.bool (decide_eq_true g11)) (.eq m1 (congrArg Value.bool (decide_eq_true g11)) (.cons m2 (.cons m3 (.cons m4 (.cons m5 .nil)))))) (TL.gv m0 (r_move T5) (TL.gv m1 (n_leq k 264 T0 .c) (TL.val (r_pickt T2 T0) (TL.a m0 (TL.b (.hd .u6) (CT.ifd m0 (fun c8 => ?_) (fun c8 => ?_)))))))
  ·
   exact CT.y (TL.m m2 (TL.val (n_sub k 254 9223372036854775808 T0 .c) (TL.rm .h3 (TL.a m0 (TL.rm .h3 (TL.val (r_asg .c) (TL.b (.hd (.hd .u2)) (CT.ret (EX.bret (EX.then_ret (EX.end_ (.inl rfl) (res2 Tryz.results94 m1 m0) (fun _ hS => ⟨by first | (obtain rfl := (show k = 285 by omega); rfl) | (simp [lenBase, lenExtra, show ¬ k = 285 by omega, show k ≤ 264 by omega]; done) | (simp [lenBase, lenExtra, show ¬ k = 285 by omega, show ¬ k ≤ 264 by omega]; done), hS⟩))))))))))))
  refine CT.y (TL.m m2 (TL.val (n_geq k 265 T0 .c) (TL.m m0 ?_)))
  by_cases g20 : 265 ≤ k
  ·
   refine TL.sub (.eq m0 (congrArg Value.bool (decide_eq_true g20)) (.eq m1 (congrArg Value.bool (decide_eq_true g20)) (.cons m2 (.cons m3 (.cons m4 (.cons m5 .nil)))))) (TL.gv m0 (r_move T5) (TL.gv m1 (n_leq k 284 T0 .c) (TL.val (r_pickt T2 T0) (TL.a m0 (TL.b (.hd .u6) (CT.ifd m0 (fun c17 => ?_) (fun c17 => ?_)))))))
   ·
    refine CT.sub .u1 (CT.seq ?_)
    have hpw : 2 ^ ((k - 261) / 4) ≤ 2 ^ 5 := Nat.pow_le_pow_right (by decide) (by omega)
    have hprod : (4 + (k - 261) % 4) * 2 ^ ((k - 261) / 4) ≤ 7 * 2 ^ 5 := Nat.mul_le_mul (by omega) hpw
    exact CT.region (TL.m m2 (TL.val (n_sub k 261 9223372036854775808 T0 .c) (TL.val (n_quo ((k - 261)) 4 9223372036854775808 T0 .c rfl rfl (by omega) (by omega)) (TL.a m0 (TL.r (.hd .u3) (TL.m m3 (TL.val (n_sub k 261 9223372036854775808 T0 .c) (TL.val (n_rem ((k - 261)) 4 T0 .c rfl rfl (by omega)) (TL.val (n_add 4 (((k - 261) % 4)) 9223372036854775808 .c T0) (TL.m m4 (TL.val (n_shl ((4 + ((k - 261) % 4))) (((k - 261) / 4)) 9223372036854775808 T1 T0 rfl rfl (show _ ≤ 64 by omega) (by omega)) (TL.val (n_add 3 (((4 + ((k - 261) % 4)) * 2 ^ ((k - 261) / 4))) 9223372036854775808 .c T0 rfl rfl (by omega)) (TL.m m7 (TL.rm .h10 (TL.a m1 (TL.rm .h10 (TL.a m1 (TL.b (.hd (.hd .u9)) (CT.ret (EX.bret (EX.then_ret (EX.end_ (.inl rfl) (res2 Tryz.results94 m1 m0) (fun _ hS => ⟨by first | (obtain rfl := (show k = 285 by omega); rfl) | (simp [lenBase, lenExtra, show ¬ k = 285 by omega, show k ≤ 264 by omega]; done) | (simp [lenBase, lenExtra, show ¬ k = 285 by omega, show ¬ k ≤ 264 by omega]; done), hS⟩)))))))))))))))))))))))
   exfalso; omega
  exfalso; omega
 exfalso; omega
theorem t96 (k : Nat) (h2 : k ≤ 29) {G : World} {R : List HProp} {w : World} (hS : Sat G w (R)) :
 CallsR Tryz.prog 96 #[(i64 k)] w (fun v w' => v = .tuple #[i64 (distBase k), i64 (distExtra k)] ∧ Sat G w' R) := by
 refine calls_in (n := 31) [(0, (i64 k))] Tryz.func96 rfl rfl hS args1 ?_
 refine CT.q (TL.val (r_asg .c) (TL.val (r_asg .c) (TL.e (CT.seq (CT.block (CT.q (TL.m m2 (TL.val (n_geq k 0 T0 .c) (TL.m m0 ?_)))))))))
 by_cases g8 : 0 ≤ k
 ·
  refine TL.sub (.eq m0 (congrArg Value.bool (decide_eq_true g8)) (.eq m1 (congrArg Value.bool (decide_eq_true g8)) (.cons m2 (.cons m3 (.cons m4 (.cons m5 .nil)))))) (TL.gv m0 (r_move T5) (TL.gv m1 (n_leq k 3 T0 .c) (TL.val (r_pickt T2 T0) (TL.a m0 (TL.b (.hd .u6) (CT.ifd m0 (fun c5 => ?_) (fun c5 => ?_)))))))
  ·
   exact CT.y (TL.m m2 (TL.val (n_add k 1 9223372036854775808 T0 .c) (TL.rm .h3 (TL.a m0 (TL.rm .h3 (TL.val (r_asg .c) (TL.b (.hd (.hd .u2)) (CT.ret (EX.bret (EX.then_ret (EX.end_ (.inl rfl) (res2 Tryz.results96 m1 m0) (fun _ hS => ⟨by first | (simp [distBase, distExtra, show k ≤ 3 by omega]; done) | (simp [distBase, distExtra, show ¬ k ≤ 3 by omega]; done), hS⟩))))))))))))
  refine CT.y (TL.m m2 (TL.val (n_geq k 4 T0 .c) (TL.m m0 ?_)))
  by_cases g17 : 4 ≤ k
  ·
   refine TL.sub (.eq m0 (congrArg Value.bool (decide_eq_true g17)) (.eq m1 (congrArg Value.bool (decide_eq_true g17)) (.cons m2 (.cons m3 (.cons m4 (.cons m5 .nil)))))) (TL.gv m0 (r_move T5) (TL.gv m1 (n_leq k 29 T0 .c) (TL.val (r_pickt T2 T0) (TL.a m0 (TL.b (.hd .u6) (CT.ifd m0 (fun c14 => ?_) (fun c14 => ?_)))))))
   ·
    refine CT.sub .u1 (CT.seq ?_)
    have hpw : 2 ^ (k / 2 - 1) ≤ 2 ^ 13 := Nat.pow_le_pow_right (by decide) (by omega)
    have hprod : (2 + k % 2) * 2 ^ (k / 2 - 1) ≤ 3 * 2 ^ 13 := Nat.mul_le_mul (by omega) hpw
    exact CT.region (TL.m m2 (TL.val (n_quo k 2 9223372036854775808 T0 .c rfl rfl (by omega) (by omega)) (TL.val (n_sub ((k / 2)) 1 9223372036854775808 T0 .c) (TL.a m0 (TL.r (.hd .u3) (TL.m m3 (TL.val (n_rem k 2 T0 .c rfl rfl (by omega)) (TL.val (n_add 2 ((k % 2)) 9223372036854775808 .c T0) (TL.m m3 (TL.val (n_shl ((2 + (k % 2))) (((k / 2) - 1)) 9223372036854775808 T1 T0 rfl rfl (show _ ≤ 64 by omega) (by omega)) (TL.val (n_add 1 (((2 + (k % 2)) * 2 ^ ((k / 2) - 1))) 9223372036854775808 .c T0) (TL.m m6 (TL.rm .h9 (TL.a m1 (TL.rm .h9 (TL.a m1 (TL.b (.hd (.hd .u8)) (CT.ret (EX.bret (EX.then_ret (EX.end_ (.inl rfl) (res2 Tryz.results96 m1 m0) (fun _ hS => ⟨by first | (simp [distBase, distExtra, show k ≤ 3 by omega]; done) | (simp [distBase, distExtra, show ¬ k ≤ 3 by omega]; done), hS⟩))))))))))))))))))))))
   exfalso; omega
  exfalso; omega
 exfalso; omega
theorem t80 (n : Nat) (h1 : 3 ≤ n) (h2 : n ≤ 258) {G : World} {R : List HProp} {w : World} (hS : Sat G w (R)) :
 CallsR Tryz.prog 80 #[(i64 n)] w (fun v w' => ∃ k x, v = .tuple #[i64 k, i64 x, i64 (lenExtra k)] ∧ LenAt n k x ∧ Sat G w' R) := by
 refine calls_in (n := 27) [(0, (i64 n))] Tryz.func80 rfl rfl hS args1 ?_
 refine CT.q (TL.val (r_asg .c) (TL.val (r_asg .c) (TL.val (r_asg .c) (TL.e (CT.seq (CT.q (TL.m m3 (TL.val (n_eql n 258 T0 .c) (TL.b (.hd .u1) (CT.ifd m0 (fun c9 => ?_) (fun c9 => ?_)))))))))))
 ·
  exact CT.y (TL.rm .h2 (TL.val (r_asg .c) (TL.rm .h2 (TL.val (r_asg .c) (TL.rm .h2 (TL.val (r_asg .c) (TL.e (CT.ret (EX.then_ret (EX.end_ (.inl rfl) (res3 Tryz.results80 m2 m1 m0) (fun _ hS => ⟨285, 0, rfl, ⟨by decide, by decide, by rw [c9]; rfl, by decide, by omega⟩, hS⟩)))))))))))
 refine CT.z (EX.seq (CT.seq (CT.q (TL.val (r_asg .c) (TL.e (CT.block (CT.loop (X := Nat) (fun gx => [(5, (i64 gx)), (0, (i64 n))]) (fun gx => R) (fun gx => 257 ≤ gx ∧ gx ≤ 284 ∧ (n < lenBase (gx + 1) ∨ gx = 284)) (fun gx => gx) 284 (⟨by decide, by decide, .inr rfl⟩) (.refl _) (.cons m0 (.cons m4 .nil)) ?_)))))))
 rintro k ⟨hI1, hI2, hI3⟩
 refine CT.seq (CT.q (TL.m m0 (TL.val (n_geq k 257 T0 .c) (TL.b (.hd .u1) (CT.ifd m0 (fun c11 => ?_) (fun c11 => ?_))))))
 ·
  refine CT.z (EX.seq (CT.seq (CT.block (CT.q (TL.m m0 (TL.call (r_call ce_94 (.cons T0 .nil)) (fun w hS => t94 k (by omega) (by omega) hS) ?_))))))
  rintro _ w16 ⟨rfl, hS⟩
  refine TW.at hS (TL.m m0 (TL.val (r_ext T0) (TL.val (r_ext T1) (TL.a m1 (TL.a m1 (TL.r (.hd (.hd .u5)) (TL.m m3 (TL.m m2 (TL.val (n_geq n ((lenBase k)) T1 T0) (TL.b (.hd .u2) (CT.ifd m0 (fun c21 => ?_) (fun c21 => ?_))))))))))))
  ·
   exact CT.y (TL.m m2 (TL.m m4 (TL.m m3 (TL.val (n_sub n ((lenBase k)) 9223372036854775808 T1 T0 rfl rfl (by have := lenBase_lt k hI1 hI2; omega) (by have := lenBase_lt k hI1 hI2; omega)) (TL.m m4 (TL.a m4 (TL.a m2 (TL.a m2 (TL.b (.hd (.hd (.hd .u5))) (CT.ret (EX.bret (EX.then_ret (EX.then_ret (EX.bret (EX.then_ret (EX.end_ (.inl rfl) (res3 Tryz.results80 m2 m1 m0) (fun _ hS => ⟨k, n - lenBase k, rfl, lenAt_of hI1 hI2 (by omega) h2 c9 hI3, hS⟩)))))))))))))))))
  refine CT.z (EX.bnormal (EX.seq (CT.region (TL.m m2 (TL.val (n_sub k 1 9223372036854775808 T0 .c) (TL.rm .h4 (TL.a m0 (TL.x (.hd .u2) ?_))))))))
  exact EX.again (k - 1) (⟨by have := c21; rcases Nat.eq_or_lt_of_le hI1 with h | h; exact absurd (show n < 3 from by rw [← h] at this; simpa [lenBase] using this) (by omega); omega, by omega, .inl (by rw [show k - 1 + 1 = k by omega]; omega)⟩) (by omega) (.refl _) (.eq m0 (by first | rfl | (congr 1 <;> omega)) (.cons m3 .nil))
 exfalso; omega
theorem t81 (n : Nat) (h1 : 1 ≤ n) (h2 : n ≤ 32768) {G : World} {R : List HProp} {w : World} (hS : Sat G w (R)) :
 CallsR Tryz.prog 81 #[(i64 n)] w (fun v w' => ∃ k x, v = .tuple #[i64 k, i64 x, i64 (distExtra k)] ∧ DistAt n k x ∧ Sat G w' R) := by
 refine calls_in (n := 25) [(0, (i64 n))] Tryz.func81 rfl rfl hS args1 ?_
 refine CT.q (TL.val (r_asg .c) (TL.val (r_asg .c) (TL.val (r_asg .c) (TL.e (CT.seq (CT.q (TL.val (r_asg .c) (TL.e (CT.block (CT.loop (X := Nat) (fun gx => [(5, (i64 gx)), (0, (i64 n))]) (fun gx => R) (fun gx => gx ≤ 29 ∧ (n < distBase (gx + 1) ∨ gx = 29)) (fun gx => gx) 29 (⟨by decide, .inr rfl⟩) (.refl _) (.cons m0 (.cons m4 .nil)) ?_))))))))))
 rintro k ⟨hI1, hI3⟩
 refine CT.seq (CT.q (TL.m m0 (TL.val (n_geq k 0 T0 .c) (TL.b (.hd .u1) (CT.ifd m0 (fun c9 => ?_) (fun c9 => ?_))))))
 ·
  refine CT.z (EX.seq (CT.seq (CT.block (CT.q (TL.m m0 (TL.call (r_call ce_96 (.cons T0 .nil)) (fun w hS => t96 k (by omega) hS) ?_))))))
  rintro _ w14 ⟨rfl, hS⟩
  refine TW.at hS (TL.m m0 (TL.val (r_ext T0) (TL.val (r_ext T1) (TL.a m1 (TL.a m1 (TL.r (.hd (.hd .u5)) (TL.m m3 (TL.m m2 (TL.val (n_geq n ((distBase k)) T1 T0) (TL.b (.hd .u2) (CT.ifd m0 (fun c19 => ?_) (fun c19 => ?_))))))))))))
  ·
   exact CT.y (TL.m m2 (TL.m m4 (TL.m m3 (TL.val (n_sub n ((distBase k)) 9223372036854775808 T1 T0) (TL.m m4 (TL.a m4 (TL.a m2 (TL.a m2 (TL.b (.hd (.hd (.hd .u5))) (CT.ret (EX.bret (EX.then_ret (EX.then_ret (EX.bret (EX.then_ret (EX.end_ (.inl rfl) (res3 Tryz.results81 m2 m1 m0) (fun _ hS => ⟨k, n - distBase k, rfl, distAt_of hI1 (by omega) h2 hI3, hS⟩)))))))))))))))))
  have hk1 : 1 ≤ k := by rcases Nat.eq_zero_or_pos k with h | h; (subst h; exact absurd h1 (by simpa [distBase] using c19)); exact h
  exact CT.z (EX.bnormal (EX.seq (CT.region (TL.m m2 (TL.val (n_sub k 1 9223372036854775808 T0 .c) (TL.rm .h4 (TL.a m0 (TL.x (.hd .u2) (EX.again (k - 1) (⟨by omega, .inl (by rw [show k - 1 + 1 = k by omega]; omega)⟩) (by omega) (.refl _) (.eq m0 (by first | rfl | (congr 1 <;> omega)) (.cons m3 .nil)))))))))))
 exfalso; omega
end Go.Eng
