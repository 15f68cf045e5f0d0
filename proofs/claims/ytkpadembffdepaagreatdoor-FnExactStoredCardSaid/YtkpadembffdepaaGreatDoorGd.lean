/- The walks of a reader of bytes. -/
import Derived.Test.YtkpadembffdepaaGreatDoorGc
namespace Go.Eng
open Go Go.Proofs Go.Infl
set_option maxRecDepth 20000
set_option linter.unusedSimpArgs false
set_option linter.unusedVariables false


theorem sub_get {α β : Type} {l : List α} {f : α → β} {i m j : Nat} {x : β} (h : (((l.drop i).take m).map f)[j]? = some x) : (l.map f)[i + j]? = some x := by
  rw [List.getElem?_map, List.getElem?_take] at h
  split at h
  · rw [List.getElem?_drop] at h
    rw [List.getElem?_map, h]
  · cases h
theorem t147 (r i : Nat) (B : List Bool) (hi : i < (pack B).length) (hl : (pack B).length < 9223372036854775807) {G : World} {R : List HProp} {w : World} (hS : Sat G w ((Br r B (i)) :: R)) :
    CallsR Tryz.prog 147 #[(.pointer (some ⟨r, 0, none⟩))] w (fun v w' => v = .tuple #[u8 (byteAt B i), .nilIface] ∧ Sat G w' (Br r B (i + 1) :: R)) := by
  refine calls_in (n := 37) [(0, (.pointer (some ⟨r, 0, none⟩)))] Tryz.func147 rfl rfl hS args1 ?_
  refine CT.seq ?_
  refine CT.region ?_
  refine TL.val (r_asg .c) ?_
  refine TL.val (r_asg .c) ?_
  refine TL.nil ?_
  refine EX.seq ?_
  refine CT.seq ?_
  refine CT.br ?_
  intro v pv
  refine CT.region ?_
  refine TL.val (r_move (.t m2)) ?_
  refine TL.val (r_nil (.t m0)) ?_
  refine TL.val (r_fa (off' := 2) fo_130_2 (.t m0)) ?_
  refine TL.s (r_stl (l' := [v, (.int .i64 ((i : Nat) : Int)), (.int .i64 ((-1)))]) Tryz.sizeOf3 a0 (.t m0) .c (by decide)) ?_
  refine TL.sub (.tl (.tl (.tl .refl))) ?_
  refine TL.nil ?_
  refine EX.seq ?_
  refine CT.seq ?_
  refine CT.seq ?_
  refine CT.still fm (by kernel_rfl) ?_
  refine TS.val (r_move (.t m2)) ?_
  refine TS.val (r_nil (.t m0)) ?_
  refine TS.val (r_fa (off' := 1) fo_130_1 (.t m0)) ?_
  refine TS.val (r_ld (v := (.int .i64 ((i : Nat) : Int))) Tryz.isAgg2 m0 (.t m0) (by decide) rfl) ?_
  refine TS.val (r_move (.t m6)) ?_
  refine TS.val (r_nil (.t m0)) ?_
  refine TS.val (r_fa (off' := 0) fo_130_0 (.t m0)) ?_
  refine TS.val (r_ld (v := v) Tryz.isAgg22 m0 (.t m0) (by decide) rfl) ?_
  refine TS.val (r_lens Tryz.underlying22 (.t m0) m1) ?_
  refine TS.val (n_geq (i) ((pack B).length) (.t m5) (.t m0) rfl rfl) ?_
  refine TS.nil ?_
  refine TL.sub (.hd (.tl (.tl (.tl (.tl (.tl (.tl (.tl (.tl (.tl .refl)))))))))) ?_
  refine TL.nil ?_
  refine EX.seq ?_
  refine CT.ifd m0 (fun c17 => ?_) (fun c17 => ?_)
  ·
    exfalso; omega
  ·
    refine CT.sub (.tl .refl) ?_
    refine CT.skip ?_
    refine EX.seq ?_
    refine CT.seq ?_
    refine CT.peek m1 (by omega) ?_
    intro d d_c d_v d_k d_l
    refine CT.still fm (by kernel_rfl) ?_
    refine TS.val (r_move (.t m2)) ?_
    refine TS.val (r_nil (.t m0)) ?_
    refine TS.val (r_fa (off' := 0) fo_130_0 (.t m0)) ?_
    refine TS.val (r_ld (v := v) Tryz.isAgg22 m0 (.t m0) (by decide) rfl) ?_
    refine TS.val (r_move (.t m6)) ?_
    refine TS.val (r_nil (.t m0)) ?_
    refine TS.val (r_fa (off' := 1) fo_130_1 (.t m0)) ?_
    refine TS.val (r_ld (v := (.int .i64 ((i : Nat) : Int))) Tryz.isAgg2 m0 (.t m0) (by decide) rfl) ?_
    refine TS.val (r_ia (i := i) (off' := i) Tryz.underlying22 Tryz.sizeOf5 (.te m4 d_v) (.t m0) (rfl) (by omega) (by omega)) ?_
    refine TS.val (r_lds (u := (.int .u8 (((byteAt B i) : Nat) : Int))) Tryz.isAgg5 m1 d_v (.t m0) (by rw [List.getElem?_map, pack_get hi]; rfl)) ?_
    refine TS.val (r_asg (.t m0)) ?_
    refine TS.nil ?_
    refine TL.sub (.hd (.tl (.tl (.tl (.tl (.tl (.tl (.tl (.tl (.tl (.tl .refl))))))))))) ?_
    refine TL.nil ?_
    refine EX.seq ?_
    refine CT.seq ?_
    refine CT.region ?_
    refine TL.val (r_move (.t m3)) ?_
    refine TL.val (r_nil (.t m0)) ?_
    refine TL.val (r_fa (off' := 1) fo_130_1 (.t m0)) ?_
    refine TL.val (r_ld (v := (.int .i64 ((i : Nat) : Int))) Tryz.isAgg2 m0 (.t m0) (by decide) rfl) ?_
    refine TL.val (n_add (i) (1) 9223372036854775808 (.t m0) .c rfl rfl (by omega)) ?_
    refine TL.val (r_nil (.t m4)) ?_
    refine TL.val (r_fa (off' := 1) fo_130_1 (.t m0)) ?_
    refine TL.s (r_stl (l' := [v, (.int .i64 (((i + 1) : Nat) : Int)), (.int .i64 ((-1)))]) Tryz.sizeOf2 a0 (.t m0) (.t m2) (by decide)) ?_
    refine TL.sub (.tl (.tl (.tl (.tl (.tl (.tl (.tl .refl))))))) ?_
    refine TL.nil ?_
    refine EX.seq ?_
    refine CT.seq ?_
    refine CT.region ?_
    refine TL.val (r_move (.t m0)) ?_
    refine TL.rm (.there (.there (.there .here))) ?_
    refine TL.val (r_asg (.t m0)) ?_
    refine TL.rm (.there (.there (.there .here))) ?_
    refine TL.val (r_asg .c) ?_
    refine TL.sub (.hd (.hd (.tl (.tl .refl)))) ?_
    refine TL.nil ?_
    refine EX.seq ?_
    refine CT.ret ?_
    exact EX.end_ (.inl rfl) (res2 Tryz.results147 m1 m0) (fun _ hS => ⟨rfl, hS.unbr⟩)
theorem t146 (r i db off n k cap : Nat) (F : Nat → Value) (B : List Bool) (hi : i < (pack B).length) (hl : (pack B).length < 4611686018427387904) (hk : off + k ≤ n) (hc : k < 4611686018427387904) {G : World} {R : List HProp} {w : World} (hS : Sat G w ((Br r B (i)) :: (blk db (n) (F)) :: R)) :
    CallsR Tryz.prog 146 #[(.pointer (some ⟨r, 0, none⟩)), (.slice (some ⟨db, off, none⟩) (k) (cap))] w (fun v w' => v = .tuple #[i64 (min ((pack B).length - i) k), .nilIface] ∧ Sat G w' (Br r B (i + min ((pack B).length - i) k) :: blk db n (updl F off ((((pack B).drop i).take (min ((pack B).length - i) k)).map u8)) :: R)) := by
  refine calls_in (n := 39) [(0, (.pointer (some ⟨r, 0, none⟩))), (1, (.slice (some ⟨db, off, none⟩) (k) (cap)))] Tryz.func146 rfl rfl hS args2 ?_
  refine CT.seq ?_
  refine CT.region ?_
  refine TL.val (r_asg .c) ?_
  refine TL.val (r_asg .c) ?_
  refine TL.nil ?_
  refine EX.seq ?_
  refine CT.seq ?_
  refine CT.seq ?_
  refine CT.br ?_
  intro v pv
  refine CT.still fm (by kernel_rfl) ?_
  refine TS.val (r_move (.t m2)) ?_
  refine TS.val (r_nil (.t m0)) ?_
  refine TS.val (r_fa (off' := 1) fo_130_1 (.t m0)) ?_
  refine TS.val (r_ld (v := (.int .i64 ((i : Nat) : Int))) Tryz.isAgg2 m0 (.t m0) (by decide) rfl) ?_
  refine TS.val (r_move (.t m6)) ?_
  refine TS.val (r_nil (.t m0)) ?_
  refine TS.val (r_fa (off' := 0) fo_130_0 (.t m0)) ?_
  refine TS.val (r_ld (v := v) Tryz.isAgg22 m0 (.t m0) (by decide) rfl) ?_
  refine TS.val (r_lens Tryz.underlying22 (.t m0) m1) ?_
  refine TS.val (n_geq (i) ((pack B).length) (.t m5) (.t m0) rfl rfl) ?_
  refine TS.nil ?_
  refine TL.sub (.hd (.tl (.tl (.tl (.tl (.tl (.tl (.tl (.tl (.tl .refl)))))))))) ?_
  refine TL.nil ?_
  refine EX.seq ?_
  refine CT.ifd m0 (fun c15 => ?_) (fun c15 => ?_)
  ·
    exfalso; omega
  ·
    refine CT.sub (.tl .refl) ?_
    refine CT.skip ?_
    refine EX.seq ?_
    refine CT.seq ?_
    refine CT.region ?_
    refine TL.val (r_move (.t m2)) ?_
    refine TL.val (r_nil (.t m0)) ?_
    refine TL.val (r_fa (off' := 2) fo_130_2 (.t m0)) ?_
    refine TL.s (r_stl (l' := [v, (.int .i64 ((i : Nat) : Int)), (.int .i64 ((-1)))]) Tryz.sizeOf3 a0 (.t m0) .c (by decide)) ?_
    refine TL.sub (.tl (.tl (.tl .refl))) ?_
    refine TL.nil ?_
    refine EX.seq ?_
    refine CT.seq ?_
    refine CT.peek m1 (by omega) ?_
    intro d d_c d_v d_k d_l
    refine CT.draw 10 fm (by kernel_rfl) ?_
    refine TS.val (r_move (.t m3)) ?_
    refine TS.val (r_move (.t m3)) ?_
    refine TS.val (r_nil (.t m0)) ?_
    refine TS.val (r_fa (off' := 0) fo_130_0 (.t m0)) ?_
    refine TS.val (r_ld (v := v) Tryz.isAgg22 m0 (.t m0) (by decide) rfl) ?_
    refine TS.val (r_move (.t m7)) ?_
    refine TS.val (r_nil (.t m0)) ?_
    refine TS.val (r_fa (off' := 1) fo_130_1 (.t m0)) ?_
    refine TS.val (r_ld (v := (.int .i64 ((i : Nat) : Int))) Tryz.isAgg2 m0 (.t m0) (by decide) rfl) ?_
    refine TS.val (r_slice (off' := i) (m := (pack B).length - i) (c' := d_c - i) Tryz.underlying22 Tryz.sizeOf5 (.te m4 d_v) (.so (j := i) (.t m0) rfl) .no (by first | (show i ≤ (pack B).length; omega) | (show (pack B).length ≤ _; omega)) (by first | (show i ≤ (pack B).length; omega) | (show (pack B).length ≤ _; omega)) (by show (if d_c = i then 0 else 0 + i * 1) = i; rw [if_neg (by omega)]; omega) (by simp) (by simp)) ?_
    refine TS.nil ?_
    refine TL.perm p2 ?_
    refine TL.w (r_copy (l := (min ((pack B).length - i) k)) (ds := (((pack B).drop i).take (min ((pack B).length - i) k)).map u8) el_22 (.t m9) (.t m0) rfl ⟨by (try simp) <;> omega, (Rds.cells (by (try simp) <;> omega) (fun w hS j x hj => hS.slc_cell m2 d_v (sub_get hj))).2⟩ (ones_map one_u8) (by omega)) ?_
    rintro _ w30 ⟨rfl, hS⟩
    refine TW.at hS ?_
    refine TL.rm (.there (.there (.there (.there (.there (.there (.there (.there (.there (.there (.there (.there .here)))))))))))) ?_
    refine TL.val (r_asg (.t m0)) ?_
    refine TL.sub (.hd (.tl (.tl (.tl (.tl (.tl (.tl (.tl (.tl (.tl (.tl (.tl (.hd (.hd (.tl .refl))))))))))))))) ?_
    refine TL.nil ?_
    refine EX.seq ?_
    refine CT.seq ?_
    refine CT.region ?_
    refine TL.val (r_move (.t m2)) ?_
    refine TL.val (r_nil (.t m0)) ?_
    refine TL.val (r_fa (off' := 1) fo_130_1 (.t m0)) ?_
    refine TL.val (r_ld (v := (.int .i64 ((i : Nat) : Int))) Tryz.isAgg2 m1 (.t m0) (by decide) rfl) ?_
    refine TL.val (r_move (.t m4)) ?_
    refine TL.val (n_add (i) ((min ((pack B).length - i) k)) 9223372036854775808 (.t m1) (.t m0) rfl rfl (by omega)) ?_
    refine TL.val (r_nil (.t m5)) ?_
    refine TL.val (r_fa (off' := 1) fo_130_1 (.t m0)) ?_
    refine TL.s (r_stl (l' := [v, (.int .i64 (((i + (min ((pack B).length - i) k)) : Nat) : Int)), (.int .i64 ((-1)))]) Tryz.sizeOf2 a1 (.t m0) (.t m2) (by decide)) ?_
    refine TL.sub (.tl (.tl (.tl (.tl (.tl (.tl (.tl (.tl .refl)))))))) ?_
    refine TL.nil ?_
    refine EX.seq ?_
    refine CT.ret ?_
    refine EX.perm p2 ?_
    refine EX.perm p2 ?_
    exact EX.end_ (.inl rfl) (res2 Tryz.results146 m0 m1) (fun _ hS => ⟨rfl, hS.unbr⟩)
end Go.Eng
