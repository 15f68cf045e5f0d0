/- The walks of reading as much as is asked. -/
import Derived.Test.YtkpadembffdepaaGreatDoorGd
namespace Go.Eng
open Go Go.Proofs Go.Infl
set_option maxRecDepth 20000
set_option linter.unusedSimpArgs false
set_option linter.unusedVariables false


theorem Br_eq {r i j : Nat} {B : List Bool} (h : i = j) : ∀ m, Br r B i m → Br r B j m := by subst h; exact fun _ h => h
theorem read_step {F : Nat → Value} {off i q k : Nat} {l : List Nat} (hq : q = 0) (hk : i + k ≤ l.length) : updl (updl F off (((l.drop i).take q).map u8)) (off + q) (((l.drop (i + q)).take (min (l.length - (i + q)) (k - q))).map u8) = updl F off (((l.drop i).take k).map u8) := by
  subst hq
  rw [show min (l.length - (i + 0)) (k - 0) = k by omega]
  rfl
theorem t123 (r i db off n k cap : Nat) (F : Nat → Value) (B : List Bool) (hi : i + k ≤ (pack B).length) (hl : (pack B).length < 4611686018427387904) (hk : off + k ≤ n) (hc : k < cap ∨ k = cap) {G : World} {R : List HProp} {w : World} (hS : Sat G w ((Br r B (i)) :: (blk db (n) (F)) :: R)) :
    CallsR Tryz.prog 123 #[(.iface 49 (.pointer (some ⟨r, 0, none⟩))), (.slice (some ⟨db, off, none⟩) (k) (cap)), (.int .i64 ((k : Nat) : Int))] w (fun v w' => v = .tuple #[i64 k, .nilIface] ∧ Sat G w' (Br r B (i + k) :: blk db n (updl F off ((((pack B).drop i).take k).map u8)) :: R)) := by
  refine calls_in (n := 46) [(0, (.iface 49 (.pointer (some ⟨r, 0, none⟩)))), (1, (.slice (some ⟨db, off, none⟩) (k) (cap))), (2, (.int .i64 ((k : Nat) : Int)))] Tryz.func123 rfl rfl hS args3 ?_
  refine CT.seq ?_
  refine CT.region ?_
  refine TL.val (r_asg .c) ?_
  refine TL.val (r_asg .c) ?_
  refine TL.nil ?_
  refine EX.seq ?_
  refine CT.seq ?_
  refine CT.seq ?_
  refine CT.region ?_
  refine TL.val (r_move (.t m3)) ?_
  refine TL.val (r_len Tryz.underlying22 (.t m0)) ?_
  refine TL.val (r_move (.t m6)) ?_
  refine TL.val (n_lss (k) (k) (.t m1) (.t m0) rfl rfl) ?_
  refine TL.sub (.hd (.tl (.tl (.tl .refl)))) ?_
  refine TL.nil ?_
  refine EX.seq ?_
  refine CT.ifd m0 (fun c12 => ?_) (fun c12 => ?_)
  ·
    exfalso; omega
  ·
    refine CT.sub (.tl .refl) ?_
    refine CT.skip ?_
    refine EX.seq ?_
    refine CT.seq ?_
    refine CT.block ?_
    refine CT.fold (A' := (blk db (n) (updl F off ((((pack B).drop i).take (0)).map u8)))) a1 (blk_eq rfl rfl) ?_
    refine CT.fold (A' := (Br r B (i + (0)))) a0 (Br_eq (by omega)) ?_
    refine CT.loop (X := Nat) (fun gx => [(7, .nilIface), (6, (.int .i64 ((gx : Nat) : Int))), (0, (.iface 49 (.pointer (some ⟨r, 0, none⟩)))), (1, (.slice (some ⟨db, off, none⟩) (k) (cap))), (2, (.int .i64 ((k : Nat) : Int)))]) (fun gx => (Br r B (i + (gx))) :: (blk db (n) (updl F off ((((pack B).drop i).take (gx)).map u8))) :: R) (fun gx => (gx) = 0 ∨ (gx) = k) (fun gx => k - (gx)) (0) (.inl rfl) (.refl _) (.cons m0 (.cons m1 (.cons m2 (.cons m3 (.cons m4 .nil))))) ?_
    rintro q hI
    show CT _ _ _ [(7, .nilIface), (6, (.int .i64 ((q : Nat) : Int))), (0, (.iface 49 (.pointer (some ⟨r, 0, none⟩)))), (1, (.slice (some ⟨db, off, none⟩) (k) (cap))), (2, (.int .i64 ((k : Nat) : Int)))] _ _ ((Br r B (i + (q))) :: (blk db (n) (updl F off ((((pack B).drop i).take (q)).map u8))) :: R)
    refine CT.seq ?_
    refine CT.seq ?_
    refine CT.region ?_
    refine TL.val (r_move (.t m1)) ?_
    refine TL.val (r_move (.t m5)) ?_
    refine TL.val (n_lss (q) (k) (.t m1) (.t m0) rfl rfl) ?_
    refine TL.val (r_move (.t m0)) ?_
    by_cases g17 : q < k
    ·
      have hq : q = 0 := by omega
      refine TL.sub (ρ' := [(17, (.bool true)), (16, (.bool true)), (15, (.int .i64 ((k : Nat) : Int))), (14, (.int .i64 ((q : Nat) : Int))), (7, .nilIface), (6, (.int .i64 ((q : Nat) : Int))), (0, (.iface 49 (.pointer (some ⟨r, 0, none⟩)))), (1, (.slice (some ⟨db, off, none⟩) (k) (cap))), (2, (.int .i64 ((k : Nat) : Int)))]) (.eq m0 (congrArg Value.bool (decide_eq_true g17)) (.eq m1 (congrArg Value.bool (decide_eq_true g17)) (.cons m2 (.cons m3 (.cons m4 (.cons m5 (.cons m6 (.cons m7 (.cons m8 .nil))))))))) ?_
      refine TL.gv m0 (r_move (.t m4)) ?_
      refine TL.gv m1 (r_eqn Tryz.underlying82 (.t m0)) ?_
      refine TL.val (r_pickt (.t m2) (.t m0)) ?_
      refine TL.sub (.hd (.tl (.tl (.tl (.tl (.tl (.tl .refl))))))) ?_
      refine TL.nil ?_
      refine EX.seq ?_
      refine CT.ift m0 ?_
      refine CT.sub (.tl .refl) ?_
      refine CT.skip ?_
      refine EX.seq ?_
      refine CT.block ?_
      refine CT.seq ?_
      refine CT.region ?_
      refine TL.val (r_asg .c) ?_
      refine TL.nil ?_
      refine EX.seq ?_
      refine CT.seq ?_
      refine CT.any fm ?_
      refine TA.take 0 rfl (by kernel_rfl) (by kernel_rfl) (by kernel_rfl) (NP.then_ (NP.inBlock (NP.then_ (NP.inBlock (NP.then_ NP.body))))) (fun G L => r_move (.t m3)) ?_
      refine TA.take 1 rfl (by kernel_rfl) (by kernel_rfl) (by kernel_rfl) (NP.then_ (NP.inBlock (NP.then_ (NP.inBlock (NP.then_ NP.body))))) (fun G L => r_move (.t m5)) ?_
      refine TA.take 2 rfl (by kernel_rfl) (by kernel_rfl) (by kernel_rfl) (NP.then_ (NP.inBlock (NP.then_ (NP.inBlock (NP.then_ NP.body))))) (fun G L => r_move (.t m4)) ?_
      refine TA.take 3 rfl (by kernel_rfl) (by kernel_rfl) (by kernel_rfl) (NP.then_ (NP.inBlock (NP.then_ (NP.inBlock (NP.then_ NP.body))))) (fun G L => r_slice (off' := off + q) (m := k - q) (c' := cap - q) Tryz.underlying22 Tryz.sizeOf5 (.t m1) (.so (j := q) (.t m0) rfl) .no (by first | (show q ≤ k; omega) | (show k ≤ cap; omega)) (by first | (show q ≤ k; omega) | (show k ≤ cap; omega)) (by show (if cap = q then off else off + q * 1) = off + q; split <;> omega) (by simp) (by simp)) ?_
      refine TA.take 4 rfl (by kernel_rfl) (by kernel_rfl) (by kernel_rfl) (NP.then_ (NP.inBlock (NP.then_ (NP.inBlock (NP.then_ NP.body))))) (fun G L => r_mkm (.t m3)) ?_
      refine TA.take 5 rfl (by kernel_rfl) (by kernel_rfl) (by kernel_rfl) (NP.then_ (NP.inBlock (NP.then_ (NP.inBlock (NP.then_ NP.body))))) (fun G L => r_nilm (.t m0) (na_49_Read _)) ?_
      refine TA.take 6 rfl (by kernel_rfl) (by kernel_rfl) (by kernel_rfl) (NP.then_ (NP.inBlock (NP.then_ (NP.inBlock (NP.then_ NP.body))))) (fun G L => r_move (.t m5)) ?_
      refine TA.one 7 (by kernel_rfl) ?_
      refine TO.perm p1 ?_
      refine TO.perm p1 ?_
      refine TO.call rfl (r_inv ce_146 (.t m0) (mt_49_Read _) (.cons (.t m3) .nil)) (fun w hS => t146 r (i + (q)) db (off + q) (n) (k - q) (cap - q) (updl F off ((((pack B).drop i).take (q)).map u8)) B (by omega) (by omega) (by omega) (by omega) hS) ?_
      rintro _ w29 ⟨rfl, hS⟩
      refine TB.at hS ?_
      refine TA.take 8 rfl (by kernel_rfl) (by kernel_rfl) (by kernel_rfl) (NP.then_ (NP.inBlock (NP.then_ (NP.inBlock (NP.then_ NP.body))))) (fun G L => r_move (.t m0)) ?_
      refine TA.take 9 rfl (by kernel_rfl) (by kernel_rfl) (by kernel_rfl) (NP.then_ (NP.inBlock (NP.then_ (NP.inBlock (NP.then_ NP.body))))) (fun G L => r_ext (.t m0)) ?_
      refine TA.take 10 rfl (by kernel_rfl) (by kernel_rfl) (by kernel_rfl) (NP.then_ (NP.inBlock (NP.then_ (NP.inBlock (NP.then_ NP.body))))) (fun G L => r_ext (.t m1)) ?_
      refine TA.sub (.hd (.hd (.hd (.hd (.hd (.hd (.hd (.hd (.hd (.hd (.hd (.tl .refl)))))))))))) ?_
      refine TA.take 11 rfl (by kernel_rfl) (by kernel_rfl) (by kernel_rfl) (NP.then_ (NP.inBlock (NP.then_ (NP.inBlock (NP.then_ NP.body))))) (fun G L => r_asg (.t m1)) ?_
      refine TA.sub (.hd (.hd (.hd (.hd (.hd (.hd (.hd (.hd (.hd (.hd (.hd (.hd (.tl .refl))))))))))))) ?_
      refine TA.take 12 rfl (by kernel_rfl) (by kernel_rfl) (by kernel_rfl) (NP.then_ (NP.inBlock (NP.then_ (NP.inBlock (NP.then_ NP.body))))) (fun G L => r_asg (.t m1)) ?_
      refine TA.done (by kernel_rfl) ?_
      refine EX.sub (.hd (.hd (.tl (.tl (.tl (.tl (.tl (.tl (.tl (.tl (.tl (.tl (.tl .refl))))))))))))) ?_
      refine EX.seq ?_
      refine CT.region ?_
      refine TL.val (r_move (.t m2)) ?_
      refine TL.val (r_move (.t m2)) ?_
      refine TL.val (n_add (q) ((min ((pack B).length - (i + (q))) (k - q))) 9223372036854775808 (.t m1) (.t m0) rfl rfl (by omega)) ?_
      refine TL.rm (.there (.there (.there (.there (.there .here))))) ?_
      refine TL.val (r_asg (.t m0)) ?_
      refine TL.sub (.hd (.tl (.tl (.tl .refl)))) ?_
      refine TL.nil ?_
      refine EX.bnormal ?_
      refine EX.fold (A' := (Br r B (i + (k)))) a0 (Br_eq (by omega)) ?_
      refine EX.fold (A' := (blk db (n) (updl F off ((((pack B).drop i).take (k)).map u8)))) a1 (blk_eq rfl (read_step hq hi)) ?_
      exact EX.again (k) (.inr rfl) (by omega) (.refl _) (.cons m1 (.eq m0 (by first | rfl | (congr 1; omega)) (.cons m3 (.cons m4 (.cons m5 .nil)))))
    ·
      refine TL.sub (ρ' := [(17, (.bool false)), (16, (.bool false)), (15, (.int .i64 ((k : Nat) : Int))), (14, (.int .i64 ((q : Nat) : Int))), (7, .nilIface), (6, (.int .i64 ((q : Nat) : Int))), (0, (.iface 49 (.pointer (some ⟨r, 0, none⟩)))), (1, (.slice (some ⟨db, off, none⟩) (k) (cap))), (2, (.int .i64 ((k : Nat) : Int)))]) (.eq m0 (congrArg Value.bool (decide_eq_false g17)) (.eq m1 (congrArg Value.bool (decide_eq_false g17)) (.cons m2 (.cons m3 (.cons m4 (.cons m5 (.cons m6 (.cons m7 (.cons m8 .nil))))))))) ?_
      refine TL.gn m0 ?_
      refine TL.gn m0 ?_
      refine TL.val (r_pickf (.t m0) .c) ?_
      refine TL.sub (.hd (.tl (.tl (.tl (.tl .refl))))) ?_
      refine TL.nil ?_
      refine EX.seq ?_
      refine CT.iff_ m0 ?_
      refine CT.sub (.tl .refl) ?_
      refine CT.exit ?_
      refine EX.then_exit ?_
      refine EX.then_exit ?_
      refine EX.out ?_
      refine EX.seq ?_
      refine CT.seq ?_
      refine CT.seq ?_
      refine CT.region ?_
      refine TL.val (r_move (.t m1)) ?_
      refine TL.val (r_move (.t m5)) ?_
      refine TL.val (n_geq (q) (k) (.t m1) (.t m0) rfl rfl) ?_
      refine TL.sub (.hd (.tl (.tl .refl))) ?_
      refine TL.nil ?_
      refine EX.seq ?_
      refine CT.ifd m0 (fun c37 => ?_) (fun c37 => ?_)
      ·
        refine CT.sub (.tl .refl) ?_
        refine CT.region ?_
        refine TL.rm .here ?_
        refine TL.val (r_asg .c) ?_
        refine TL.nil ?_
        refine EX.seq ?_
        refine CT.ret ?_
        exact EX.end_ (.inl rfl) (res2 Tryz.results123 m1 m0) (fun _ hS => ⟨by obtain rfl : q = k := (by omega); rfl, by obtain rfl : q = k := (by omega); exact hS⟩)
      ·
        exfalso; omega
theorem t107 (r i db off n k cap : Nat) (F : Nat → Value) (B : List Bool) (hi : i + k ≤ (pack B).length) (hl : (pack B).length < 4611686018427387904) (hk : off + k ≤ n) (hc : k < cap ∨ k = cap) {G : World} {R : List HProp} {w : World} (hS : Sat G w ((Br r B (i)) :: (blk db (n) (F)) :: R)) :
    CallsR Tryz.prog 107 #[(.iface 49 (.pointer (some ⟨r, 0, none⟩))), (.slice (some ⟨db, off, none⟩) (k) (cap))] w (fun v w' => v = .tuple #[i64 k, .nilIface] ∧ Sat G w' (Br r B (i + k) :: blk db n (updl F off ((((pack B).drop i).take k).map u8)) :: R)) := by
  refine calls_in (n := 13) [(0, (.iface 49 (.pointer (some ⟨r, 0, none⟩)))), (1, (.slice (some ⟨db, off, none⟩) (k) (cap)))] Tryz.func107 rfl rfl hS args2 ?_
  refine CT.seq ?_
  refine CT.region ?_
  refine TL.val (r_asg .c) ?_
  refine TL.val (r_asg .c) ?_
  refine TL.nil ?_
  refine EX.seq ?_
  refine CT.seq ?_
  refine CT.region ?_
  refine TL.val (r_move (.t m2)) ?_
  refine TL.val (r_move (.t m4)) ?_
  refine TL.val (r_move (.t m5)) ?_
  refine TL.val (r_len Tryz.underlying22 (.t m0)) ?_
  refine TL.perm p1 ?_
  refine TL.perm p1 ?_
  refine TL.call (r_call ce_123 (.cons (.t m3) (.cons (.t m2) (.cons (.t m0) .nil)))) (fun w hS => t123 r (i) db (off) (n) (k) (cap) (F) B (by omega) (by omega) (by omega) (by omega) hS) ?_
  rintro _ w10 ⟨rfl, hS⟩
  refine TW.at hS ?_
  refine TL.val (r_ext (.t m0)) ?_
  refine TL.val (r_ext (.t m1)) ?_
  refine TL.rm (.there (.there (.there (.there (.there (.there (.there (.there .here)))))))) ?_
  refine TL.val (r_asg (.t m1)) ?_
  refine TL.rm (.there (.there (.there (.there (.there (.there (.there (.there .here)))))))) ?_
  refine TL.val (r_asg (.t m1)) ?_
  refine TL.sub (.hd (.hd (.tl (.tl (.tl (.tl (.tl (.tl (.tl (.tl (.tl .refl))))))))))) ?_
  refine TL.nil ?_
  refine EX.seq ?_
  refine CT.ret ?_
  exact EX.end_ (.inl rfl) (res2 Tryz.results107 m1 m0) (fun _ hS => ⟨rfl, hS⟩)
end Go.Eng
