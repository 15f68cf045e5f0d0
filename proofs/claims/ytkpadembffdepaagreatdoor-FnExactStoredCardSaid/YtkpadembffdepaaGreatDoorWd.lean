/- The walk of a writer: stored blocks. -/
import Derived.Test.YtkpadembffdepaaGreatDoorRa
namespace Go.Eng
open Go Go.Proofs Go.Infl
set_option maxRecDepth 20000
set_option linter.unusedSimpArgs false
set_option linter.unusedVariables false

theorem t52 (p : Nat) (v : Value) (xs : List Nat) (f : Bool) (x : Nat) (bs : List Bool) (hb : bs.length + 8 * xs.length + 64 < 1099511627776) (hl : xs.length ≤ 65535) (hx : x < 9223372036854775808) (hxs : ∀ x ∈ xs, x < 256) {G : World} {R : List HProp} {w : World} (hS : Sat G w ((slc 1 v (xs.length) (xs.map u8)) :: (Wr p (bs)) :: R)) :
    CallsR Tryz.prog 52 #[(.pointer (some ⟨p, 0, none⟩)), v, (.bool f), (.int .i64 ((x : Nat) : Int))] w (fun r w' => r = .tuple #[] ∧ ∃ ps : List Bool, ps.length < 8 ∧ (bs.length + 3 + ps.length) % 8 = 0 ∧ Sat G w' (slc 1 v xs.length (xs.map u8) :: Wr p (bs ++ storedBits f ps xs) :: R)) := by
  have hf := flag_lt f
  refine calls_in (n := 37) [(0, (.pointer (some ⟨p, 0, none⟩))), (1, v), (2, (.bool f)), (3, (.int .i64 ((x : Nat) : Int)))] Tryz.func52 rfl rfl hS args4 ?_
  refine CT.seq ?_
  refine CT.region ?_
  refine TL.val (r_move (.t m0)) ?_
  refine TL.val (r_move (.t m3)) ?_
  refine TL.call (r_call ce_77 (.cons (.t m0) .nil)) (fun w hS => t77 (f) hS) ?_
  rintro _ w12 ⟨rfl, hS⟩
  refine TW.at hS ?_
  refine TL.perm p1 ?_
  refine TL.call (r_call ce_37 (.cons (.t m2) (.cons (.t m0) (.cons .c .nil)))) (fun w hS => t37 p ((Bool.toNat f)) (3) (bs) (by (try simp only [List.length_append, nbits_length, cbits_length, bits8_length, List.length_take, List.length_singleton, List.length_nil] at *); omega) (by omega) (by omega) hS) ?_
  rintro _ w13 ⟨rfl, hS⟩
  refine TW.at hS ?_
  refine TL.sub (.tl (.tl (.tl (.tl (.hd (.hd (.tl .refl))))))) ?_
  refine TL.nil ?_
  refine EX.seq ?_
  refine CT.seq ?_
  refine CT.region ?_
  refine TL.val (r_move (.t m0)) ?_
  refine TL.val (r_move (.t m3)) ?_
  refine TL.call (r_call ce_57 (.cons (.t m1) (.cons (.t m0) .nil))) (fun w hS => t57 p (x) ((bs) ++ nbits (3) ((Bool.toNat f))) (by (try simp only [List.length_append, nbits_length, cbits_length, bits8_length, List.length_take, List.length_singleton, List.length_nil] at *); omega) (by omega) hS) ?_
  rintro _ w16 ⟨rfl, ps16, ps16_l, ps16_m, hS⟩
  refine TW.at hS ?_
  refine TL.sub (.tl (.tl (.tl (.hd (.hd (.tl .refl)))))) ?_
  refine TL.nil ?_
  refine EX.seq ?_
  refine CT.seq ?_
  refine CT.region ?_
  refine TL.val (r_move (.t m0)) ?_
  refine TL.val (r_move (.t m2)) ?_
  refine TL.val (r_lens Tryz.underlying22 (.t m0) m1) ?_
  refine TL.call (r_call ce_37 (.cons (.t m2) (.cons (.t m0) (.cons .c .nil)))) (fun w hS => t37 p (xs.length) (16) (((bs) ++ nbits (3) ((Bool.toNat f))) ++ ps16) (by (try simp only [List.length_append, nbits_length, cbits_length, bits8_length, List.length_take, List.length_singleton, List.length_nil] at *); omega) (by omega) (by omega) hS) ?_
  rintro _ w20 ⟨rfl, hS⟩
  refine TW.at hS ?_
  refine TL.sub (.tl (.tl (.tl (.tl .refl)))) ?_
  refine TL.nil ?_
  refine EX.seq ?_
  refine CT.seq ?_
  refine CT.region ?_
  refine TL.val (r_move (.t m0)) ?_
  refine TL.val (r_move (.t m2)) ?_
  refine TL.val (r_lens Tryz.underlying22 (.t m0) m1) ?_
  refine TL.val (n_sub (65535) (xs.length) 9223372036854775808 .c (.t m0) rfl rfl (by omega) (by omega)) ?_
  refine TL.call (r_call ce_37 (.cons (.t m3) (.cons (.t m0) (.cons .c .nil)))) (fun w hS => t37 p ((65535 - xs.length)) (16) ((((bs) ++ nbits (3) ((Bool.toNat f))) ++ ps16) ++ nbits (16) (xs.length)) (by (try simp only [List.length_append, nbits_length, cbits_length, bits8_length, List.length_take, List.length_singleton, List.length_nil] at *); omega) (by omega) (by omega) hS) ?_
  rintro _ w25 ⟨rfl, hS⟩
  refine TW.at hS ?_
  refine TL.sub (.tl (.tl (.tl (.tl (.tl .refl))))) ?_
  refine TL.nil ?_
  refine EX.seq ?_
  refine CT.seq ?_
  refine CT.region ?_
  refine TL.val (r_move (.t m1)) ?_
  refine TL.val (r_lens Tryz.underlying22 (.t m0) m1) ?_
  refine TL.val (r_move .c) ?_
  refine TL.nil ?_
  refine EX.seq ?_
  refine CT.block ?_
  refine CT.fold (A' := (Wr p ((bs ++ nbits 3 (Bool.toNat f) ++ ps16 ++ nbits 16 xs.length ++ nbits 16 (65535 - xs.length)) ++ (xs.take (0)).flatMap (nbits 8)))) a0 (Wr_eq (by simp)) ?_
  refine CT.perm p1 ?_
  refine CT.loop (X := Nat) (fun gx => [(28, (.int .i64 ((gx : Nat) : Int))), (27, (.int .i64 ((xs.length : Nat) : Int))), (26, v), (0, (.pointer (some ⟨p, 0, none⟩))), (1, v)]) (fun gx => (slc 1 v (xs.length) (xs.map u8)) :: (Wr p ((bs ++ nbits 3 (Bool.toNat f) ++ ps16 ++ nbits 16 xs.length ++ nbits 16 (65535 - xs.length)) ++ (xs.take (gx)).flatMap (nbits 8))) :: R) (fun gx => gx ≤ xs.length) (fun gx => xs.length - gx) (0) (by omega) (.refl _) (.cons m0 (.cons m1 (.cons m2 (.cons m3 (.cons m4 .nil))))) ?_
  rintro k hI
  show CT _ _ _ [(28, (.int .i64 ((k : Nat) : Int))), (27, (.int .i64 ((xs.length : Nat) : Int))), (26, v), (0, (.pointer (some ⟨p, 0, none⟩))), (1, v)] _ _ ((slc 1 v (xs.length) (xs.map u8)) :: (Wr p ((bs ++ nbits 3 (Bool.toNat f) ++ ps16 ++ nbits 16 xs.length ++ nbits 16 (65535 - xs.length)) ++ (xs.take (k)).flatMap (nbits 8))) :: R)
  refine CT.seq ?_
  refine CT.region ?_
  refine TL.val (n_lss (k) (xs.length) (.t m0) (.t m1) rfl rfl) ?_
  refine TL.nil ?_
  refine EX.seq ?_
  refine CT.seq ?_
  refine CT.ifd m0 (fun c29 => ?_) (fun c29 => ?_)
  ·
    refine CT.sub (.tl .refl) ?_
    refine CT.skip ?_
    refine EX.seq ?_
    refine CT.seq ?_
    refine CT.block ?_
    refine CT.seq ?_
    obtain ⟨x1, hx1, hl1⟩ := src_get hxs c29
    refine CT.peek m0 (by omega) ?_
    intro d d_c d_v d_k d_l
    refine CT.region ?_
    refine TL.val (r_ia (i := k) (off' := k) Tryz.underlying22 Tryz.sizeOf5 (.te m2 d_v) (.t m0) (rfl) (by omega) (by omega)) ?_
    refine TL.val (r_lds (u := (.int .u8 ((x1 : Nat) : Int))) Tryz.isAgg5 m0 d_v (.t m0) (by rw [List.getElem?_map, hx1]; rfl)) ?_
    refine TL.val (r_asg (.t m0)) ?_
    refine TL.sub (.hd (.tl (.tl .refl))) ?_
    refine TL.nil ?_
    refine EX.seq ?_
    refine CT.region ?_
    refine TL.val (r_move (.t m4)) ?_
    refine TL.val (r_move (.t m1)) ?_
    refine TL.val (n_conv (x1) 9223372036854775808 ⟨_, Tryz.underlying5⟩ Tryz.underlying3 (.t m0) rfl (by omega)) ?_
    refine TL.perm p1 ?_
    refine TL.call (r_call ce_37 (.cons (.t m2) (.cons (.t m0) (.cons .c .nil)))) (fun w hS => t37 p (x1) (8) ((bs ++ nbits 3 (Bool.toNat f) ++ ps16 ++ nbits 16 xs.length ++ nbits 16 (65535 - xs.length)) ++ (xs.take (k)).flatMap (nbits 8)) (by (try simp only [List.length_append, nbits_length, cbits_length, bits8_length, List.length_take, List.length_singleton, List.length_nil] at *); omega) (by omega) (by omega) hS) ?_
    rintro _ w35 ⟨rfl, hS⟩
    refine TW.at hS ?_
    refine TL.sub (.tl (.tl (.tl (.tl .refl)))) ?_
    refine TL.nil ?_
    refine EX.bnormal ?_
    refine EX.seq ?_
    refine CT.region ?_
    refine TL.val (n_add (k) (1) 9223372036854775808 (.t m1) .c rfl rfl (by omega)) ?_
    refine TL.rm (.there (.there .here)) ?_
    refine TL.val (r_move (.t m0)) ?_
    refine TL.sub (.hd (.tl .refl)) ?_
    refine TL.nil ?_
    refine EX.fold (A' := (Wr p ((bs ++ nbits 3 (Bool.toNat f) ++ ps16 ++ nbits 16 xs.length ++ nbits 16 (65535 - xs.length)) ++ (xs.take (k + 1)).flatMap (nbits 8)))) a0 (Wr_eq (by rw [List.take_add_one, hx1, List.flatMap_append]; simp)) ?_
    refine EX.perm p1 ?_
    exact EX.again (k + 1) (by omega) (by omega) (.refl _) (.eq m0 (by first | rfl | (congr 1; omega)) (.cons m2 (.cons m3 (.cons m4 (.cons m5 .nil)))))
  ·
    refine CT.sub (.tl .refl) ?_
    refine CT.exit ?_
    refine EX.then_exit ?_
    refine EX.then_exit ?_
    refine EX.out ?_
    exact EX.end_ (.inr rfl) (res0 Tryz.results52) (fun _ hS => ⟨rfl, ps16, ps16_l, by simp only [List.length_append, nbits_length] at ps16_m; omega, by obtain rfl : k = xs.length := (by omega); rw [List.take_length] at hS; simpa only [storedBits, List.append_assoc] using hS⟩)
end Go.Eng
