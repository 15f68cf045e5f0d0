/- The walks of a reader: its begin, a stored block. -/
import Derived.Test.YtkpadembffdepaaGreatDoorRb
namespace Go.Eng
open Go Go.Proofs Go.Infl
set_option maxRecDepth 20000
set_option linter.unusedSimpArgs false
set_option linter.unusedVariables false


/-- A list of bytes that was handed: nil, or in memory that was there at the begin. -/
def CodeOf (G : World) (cv : Value) : Prop := cv = .slice none 0 0 ∨ ∃ b off c, ∃ xs : List Nat, cv = .slice (some ⟨b, off, none⟩) xs.length c ∧ xs.length ≤ c ∧ (∀ x ∈ xs, x < 256) ∧ ∀ j x, xs[j]? = some x → G.cell? ⟨b, off + j, none⟩ = some (u8 x)
theorem take_get {α : Type} {l : List α} {n j : Nat} {x : α} (h : (l.take n)[j]? = some x) : l[j]? = some x := by
  rw [List.getElem?_take] at h
  split at h
  · exact h
  · cases h
theorem t35 {G : World} (cv : Value) (hc : CodeOf G cv) {R : List HProp} {w : World} (hS : Sat G w (R)) :
    CallsR Tryz.prog 35 #[cv] w (fun v w' => ∃ r : Nat, v = .pointer (some ⟨r, 0, none⟩) ∧ Sat G w' (Rdr G r 0 :: R)) := by
  obtain rfl | ⟨b, off, c, xs, rfl, hlc, hxs, hx⟩ := hc
  ·
    refine calls_in (n := 10) [(0, (.slice none 0 0))] Tryz.func35 rfl rfl hS args1 ?_
    refine CT.seq ?_
    refine CT.region ?_
    refine TL.val (r_asg .c) ?_
    refine TL.nil ?_
    refine EX.seq ?_
    refine CT.seq ?_
    refine CT.region ?_
    refine TL.val (r_move (.t m1)) ?_
    refine TL.val (r_move (.t m2)) ?_
    refine TL.val (r_len Tryz.underlying22 (.t m0)) ?_
    refine TL.val (n_min (0) (3000) (.t m0) .c rfl rfl) ?_
    refine TL.val (r_slicen Tryz.underlying22 Tryz.sizeOf5 (.t m3) .no (.so (j := (min (0) (3000))) (.t m0) rfl) (by first | rfl | simp) (by first | rfl | simp)) ?_
    refine TL.val (r_build (v := (.agg #[(.slice none 0 0), (.int .i64 0)])) (.cons (.t m0) .nil) (fun _ => by kernel_rfl)) ?_
    refine TL.w (r_box (F := lst [(.slice none 0 0), (.int .i64 0)]) (.t m0) rfl rfl lst_ok) ?_
    rintro _ w9 ⟨b9, rfl, hS⟩
    refine TW.at hS ?_
    refine TL.rm (.there (.there (.there (.there (.there (.there (.there .here))))))) ?_
    refine TL.val (r_asg (.t m0)) ?_
    refine TL.sub (.hd (.tl (.tl (.tl (.tl (.tl (.tl (.tl (.tl .refl))))))))) ?_
    refine TL.nil ?_
    refine EX.seq ?_
    refine CT.ret ?_
    exact EX.end_ (.inl rfl) (res1 Tryz.results35 m0) (fun _ hS => ⟨b9, rfl, Sat.toRdr (q := 0) ⟨[], by simp, by simp, .inl ⟨rfl, rfl⟩⟩ (Nat.le_refl _) hS⟩)
  ·
    refine calls_in (n := 10) [(0, (.slice (some ⟨b, off, none⟩) (xs.length) (c)))] Tryz.func35 rfl rfl hS args1 ?_
    refine CT.seq ?_
    refine CT.region ?_
    refine TL.val (r_asg .c) ?_
    refine TL.nil ?_
    refine EX.seq ?_
    refine CT.seq ?_
    refine CT.region ?_
    refine TL.val (r_move (.t m1)) ?_
    refine TL.val (r_move (.t m2)) ?_
    refine TL.val (r_len Tryz.underlying22 (.t m0)) ?_
    refine TL.val (n_min (xs.length) (3000) (.t m0) .c rfl rfl) ?_
    refine TL.val (r_slice (off' := off) (m := (min (xs.length) (3000))) (c' := c) Tryz.underlying22 Tryz.sizeOf5 (.t m3) .no (.so (j := (min (xs.length) (3000))) (.t m0) rfl) (by (try simp) <;> omega) (by (try simp) <;> omega) (by simp) (by simp) (by simp)) ?_
    refine TL.val (r_build (v := (.agg #[(.slice (some ⟨b, off, none⟩) ((min (xs.length) (3000))) (c)), (.int .i64 0)])) (.cons (.t m0) .nil) (fun _ => by kernel_rfl)) ?_
    refine TL.w (r_box (F := lst [(.slice (some ⟨b, off, none⟩) ((min (xs.length) (3000))) (c)), (.int .i64 0)]) (.t m0) rfl rfl lst_ok) ?_
    rintro _ w9 ⟨b9, rfl, hS⟩
    refine TW.at hS ?_
    refine TL.rm (.there (.there (.there (.there (.there (.there (.there .here))))))) ?_
    refine TL.val (r_asg (.t m0)) ?_
    refine TL.sub (.hd (.tl (.tl (.tl (.tl (.tl (.tl (.tl (.tl .refl))))))))) ?_
    refine TL.nil ?_
    refine EX.seq ?_
    refine CT.ret ?_
    exact EX.end_ (.inl rfl) (res1 Tryz.results35 m0) (fun _ hS => ⟨b9, rfl, Sat.toRdr (q := 0) ⟨xs.take (min xs.length 3000), fun x hx => hxs x (List.mem_of_mem_take hx), by rw [List.length_take]; omega, .inr ⟨b, off, c, by rw [List.length_take]; congr 1; omega, fun j x hj => hx j x (take_get hj)⟩⟩ (Nat.le_refl _) hS⟩)
theorem t46_0 (r p N : Nat) (vo : Value) (h : List Nat) (bs : List Bool) (f : Bool) (be : Int) (most : Nat) (hm : most ≤ 65535) (hh : ∀ x ∈ h, x < 256) (hl : h.length < 1048576) (hb : bs.length < 68719476736) (hN : N < 68719476736) {G : World} {R : List HProp} {w : World} (hS : Sat G w ((slc 1 vo (h.length) (h.map u8)) :: (Wr p (bs)) :: (Rdr G r (N)) :: R)) :
    CallsR Tryz.prog 46 #[(.pointer (some ⟨r, 0, none⟩)), (.pointer (some ⟨p, 0, none⟩)), vo, (.int .i64 (be)), (.int .i64 0), (.int .i64 ((most : Nat) : Int)), (.bool f)] w (fun v w' => ∃ (h' : List Nat) (b : List Bool), IsBlk bs.length f h b h' ∧ h'.length ≤ h.length + most ∧ b.length ≤ 1073741824 ∧ Sat G w' (slc 1 v h'.length (h'.map u8) :: Wr p (bs ++ b) :: Rdr G r (N + 1073741824) :: R)) := by
  refine calls_in (n := 56) [(0, (.pointer (some ⟨r, 0, none⟩))), (1, (.pointer (some ⟨p, 0, none⟩))), (2, vo), (3, (.int .i64 (be))), (4, (.int .i64 0)), (5, (.int .i64 ((most : Nat) : Int))), (6, (.bool f))] Tryz.func46 rfl rfl hS args7 ?_
  refine CT.seq ?_
  refine CT.region ?_
  refine TL.val (r_asg .c) ?_
  refine TL.nil ?_
  refine EX.seq ?_
  refine CT.seq ?_
  refine CT.seq ?_
  refine CT.region ?_
  refine TL.val (r_move (.t m5)) ?_
  refine TL.val (show Run _ _ _ _ _ _ (.bool false) from n_eql (0) (3) (.t m0) .c rfl rfl) ?_
  refine TL.sub (.hd (.tl .refl)) ?_
  refine TL.nil ?_
  refine EX.seq ?_
  refine CT.iff_ m0 ?_
  refine CT.sub (.tl .refl) ?_
  refine CT.skip ?_
  refine EX.seq ?_
  refine CT.seq ?_
  refine CT.seq ?_
  refine CT.region ?_
  refine TL.val (r_move (.t m5)) ?_
  refine TL.val (show Run _ _ _ _ _ _ (.bool true) from n_eql (0) (0) (.t m0) .c rfl rfl) ?_
  refine TL.sub (.hd (.tl .refl)) ?_
  refine TL.nil ?_
  refine EX.seq ?_
  refine CT.ift m0 ?_
  refine CT.sub (.tl .refl) ?_
  refine CT.seq ?_
  refine CT.region ?_
  refine TL.val (r_move (.t m1)) ?_
  refine TL.val (r_move (.t m7)) ?_
  refine TL.perm p2 ?_
  refine TL.call (r_call ce_44 (.cons (.t m1) (.cons (.t m0) .nil))) (fun w hS => t44 r (most) (N) (by omega) (by omega) hS) ?_
  rintro v25 w25 ⟨xs25, xs25_l, xs25_b, hS⟩
  refine TW.at hS ?_
  refine TL.val (r_asg (.t m0)) ?_
  refine TL.sub (.hd (.tl (.tl (.tl .refl)))) ?_
  refine TL.nil ?_
  refine EX.seq ?_
  refine CT.seq ?_
  refine CT.region ?_
  refine TL.val (r_move (.t m3)) ?_
  refine TL.val (r_move (.t m1)) ?_
  refine TL.val (r_move (.t m10)) ?_
  refine TL.val (r_move (.t m5)) ?_
  refine TL.perm p1 ?_
  refine TL.call (r_call ce_39 (.cons (.t m0) (.cons .c .nil))) (fun w hS => t39 r (256) (N + 1 + 2 * most) (by omega) (by omega) hS) ?_
  rintro _ w30 ⟨y30, rfl, y30_l, hS⟩
  refine TW.at hS ?_
  refine TL.perm p3 ?_
  refine TL.perm p2 ?_
  refine TL.call (r_call ce_52 (.cons (.t m4) (.cons (.t m3) (.cons (.t m2) (.cons (.t m0) .nil))))) (fun w hS => t52 p v25 (xs25) f (y30) (bs) (by omega) (by omega) (by omega) (xs25_b) hS) ?_
  rintro _ w31 ⟨rfl, ps31, ps31_l, ps31_m, hS⟩
  refine TW.at hS ?_
  refine TL.sub (.tl (.tl (.tl (.tl (.tl (.tl .refl)))))) ?_
  refine TL.nil ?_
  refine EX.seq ?_
  refine CT.seq ?_
  refine CT.region ?_
  refine TL.val (r_move (.t m4)) ?_
  refine TL.val (r_move (.t m1)) ?_
  refine TL.perm p3 ?_
  refine TL.w (r_appends (j := xs25.length) (k := h.length) (ds := xs25.map u8) el_22 Tryz.underlying22 (.t m1) (.t m0) m1 (ones_map one_u8) (by omega) (by omega)) ?_
  rintro v34 w34 hS
  refine TW.at hS ?_
  refine TL.fold (A' := (slc 1 v34 ((h ++ xs25).length) ((h ++ xs25).map u8))) a0 (slc_eq (by rw [List.length_append]) ((List.map_append).symm)) ?_
  refine TL.rm (.there (.there (.there (.there .here)))) ?_
  refine TL.val (r_asg (.t m0)) ?_
  refine TL.sub (.hd (.tl (.tl (.tl .refl)))) ?_
  refine TL.nil ?_
  refine EX.seq ?_
  refine CT.ret ?_
  refine EX.then_ret ?_
  exact EX.end_ (.inl rfl) (res1 Tryz.results46 m0) (fun _ hS => ⟨h ++ xs25, _, .stored ps31_l ps31_m (by omega) xs25_b, by rw [List.length_append]; omega, by rw [storedBits_length]; omega, ((((hS.perm p1).tail.perm p2).imp (Rdr_mono (by omega))).perm p2).perm p2⟩)
end Go.Eng
