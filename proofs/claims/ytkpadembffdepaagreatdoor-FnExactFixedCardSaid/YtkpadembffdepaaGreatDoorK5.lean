/- Parts of the proof of the card: Hp Hq Hr Ht Hs Ha Hb Sd Br Se Sf Sg Sh -/
import Derived.Test.YtkpadembffdepaaGreatDoorK4
import Derived.Test.YtkpadembffdepaaGreatDoorProg
import Derived.WalkKit
import Derived.LaidEql
import Derived.Stop.Asserts
import Derived.RowKitTokens
import Derived.Test.YtkpadembffdepaaGreatDoorK3
import Derived.Test.YtkpadembffdepaaGreatDoorK2
import Derived.Test.YtkpadembffdepaaGreatDoorK1
set_option maxRecDepth 100000
set_option maxHeartbeats 4000000
set_option linter.unusedVariables false
set_option linter.unusedSimpArgs false
namespace Go.Eng
open Go Go.Proofs Go.Infl
theorem u8_at {hist : Nat → Nat} {c : List Nat} {a n j : Nat} {x : Value} (hat : ∀ j x, c[j]? = some x → hist (a + j) = x) (hj : ((c.take n).map u8)[j]? = some x) : u8 (hist (a + j)) = x := by
 rw [List.getElem?_map, List.getElem?_take] at hj
 split at hj
 ·
  cases hc : c[j]? with
  | none => rw [hc] at hj; cases hj
  | some y => rw [hc] at hj; cases hj; rw [hat j y hc]
 cases hj
def RdPost (G : World) (R : List HProp) (bb cb f r hb db : Nat) (B : List Bool) (hF : List Nat × Bool) (eof : Value) (del : List Nat) (v : Value) (w' : World) : Prop :=
 ∃ (d : List Nat) (e : Value) (F' : Nat → Value), v = .tuple #[i64 d.length, e] ∧ d.length ≤ 1000 ∧ (∀ j x, d[j]? = some x → F' j = u8 x) ∧
  ((e = .nilIface ∧ 0 < d.length ∧ ∃ M, Sat G w' (RSA false bb cb f r hb B hF eof (del ++ d) (· < M) :: AnyB bb 316 :: AnyB cb 19 :: blk db 1000 F' :: R)) ∨ (EV hF eof e ∧ del ++ d = hF.1 ∧ Sat G w' (blk db 1000 F' :: R)))
section
variable {G w : World} {R : List HProp} {bb cb f r hb db i M a cp2 : Nat} {B : List Bool} {hF : List Nat × Bool} {del h c un : List Nat} {eof : Value} {s : DS} {hist : Nat → Nat} {F : Nat → Value}
theorem got_at {n : Nat} : ∀ j x, (c.take n)[j]? = some x → updl F 0 ((c.take n).map u8) j = u8 x := fun j x hj => by
 have := updl_get (F := F) (off := 0) (vs := (c.take n).map u8) (j := j) (v := u8 x) (by rw [List.getElem?_map, hj]; rfl)
 rwa [Nat.zero_add] at this
theorem Sat.qt {ok : Nat → Prop} (hS : Sat G w (Qt false f B hF eof s i h c un ok :: R)) : (∃ mu, s.err = .nilIface ∧ ok mu ∧ Sat G w (Pl f B hF s i h mu :: R)) ∨ (EV hF eof s.err ∧ h = hF.1 ∧ un = [] ∧ Sat G w R) := by
 obtain ⟨o, hS⟩ := hS.ex
 cases o with
 | some mu =>
  obtain ⟨⟨h5, h6⟩, hS⟩ := (Sat.unsep hS).pure
  exact .inl ⟨mu, h5, h6, hS⟩
 | none =>
  obtain ⟨⟨h5, h6, h7⟩, hS⟩ := hS.pure
  exact .inr ⟨h5, h6, h7.resolve_right (fun h => absurd h.1 (by decide)), hS⟩
theorem read_A (H : Base bb cb r hb B s i hist h) (hh : h = del ++ (c ++ un)) (hu : un.length = s.wr - s.rd) (hcp : c.length ≤ cp2) (hap : a + c.length ≤ 32768) (hat : ∀ j x, c[j]? = some x → hist (a + j) = x)
 (hS : Sat G w (blk f 1054 (D { s with toRead := .slice (some ⟨hb, (if cp2 = min c.length 1000 then a else a + min c.length 1000), none⟩) (c.length - min c.length 1000) (cp2 - min c.length 1000) }) :: Br r B i :: blk hb 32768 (fun j => u8 (hist j)) :: Qt false f B hF eof s i h c un (· < M) :: R)) :
 RS false G R bb cb f r hb B hF eof (del ++ c.take (min c.length 1000)) (· < M) w := by
 have htr : TR hb hist (.slice (some ⟨hb, (if cp2 = min c.length 1000 then a else a + min c.length 1000), none⟩) (c.length - min c.length 1000) (cp2 - min c.length 1000)) (c.drop (min c.length 1000)) := by
  refine .inr ⟨_, _, by rw [List.length_drop], by rw [List.length_drop]; omega, by rw [List.length_drop]; split <;> omega, fun j x hj => ?_⟩
  have hlt := (List.getElem?_eq_some_iff.1 hj).1
  rw [List.length_drop] at hlt
  rw [List.getElem?_drop] at hj
  rw [if_neg (by omega), Nat.add_assoc]
  exact hat _ _ hj
 have hh' : h = (del ++ c.take (min c.length 1000)) ++ (c.drop (min c.length 1000) ++ un) := by
  rw [List.append_assoc, ← List.append_assoc (c.take _), List.take_append_drop, hh]
 have hB : Base bb cb r hb B { s with toRead := .slice (some ⟨hb, (if cp2 = min c.length 1000 then a else a + min c.length 1000), none⟩) (c.length - min c.length 1000) (cp2 - min c.length 1000) } i hist h := ⟨H.r_, H.hi, H.win, H.rw_, H.wl, H.ro, H.il, H.ex, H.sd.mono (Nat.le_refl _)⟩
 rcases (hS.perm p3).qt with ⟨mu, h1, h2, hS⟩ | ⟨h1, h2, h3, hS⟩
 ·
  exact ⟨_, i, hist, h, _, un, hB, hh', hu, htr, .inl ⟨h1, mu, h2, (hS.imp Pl.toRead).perm (List.perm_middle (l₁ := [Eng.blk f 1054 (Eng.D _), Br r B i, Eng.blk hb 32768 (fun j => u8 (hist j))])).symm⟩⟩
 exact ⟨_, i, hist, h, _, un, hB, hh', hu, htr, .inr ⟨h1, h2, .inl h3, hS⟩⟩
theorem read_A1 (H : Base bb cb r hb B s i hist h) (hh : h = del ++ (c ++ un)) (hu : un.length = s.wr - s.rd) (hcp : c.length ≤ cp2) (hap : a + c.length ≤ 32768) (hat : ∀ j x, c[j]? = some x → hist (a + j) = x) (hc : 0 < c.length) (hr : ¬ c.length - min c.length 1000 = 0)
 (hS : Sat G w (blk f 1054 (D { s with toRead := .slice (some ⟨hb, (if cp2 = min c.length 1000 then a else a + min c.length 1000), none⟩) (c.length - min c.length 1000) (cp2 - min c.length 1000) }) :: Br r B i :: blk hb 32768 (fun j => u8 (hist j)) :: Qt false f B hF eof s i h c un (· < M) :: AnyB bb 316 :: AnyB cb 19 :: blk db 1000 (updl F 0 ((c.take (min c.length 1000)).map u8)) :: R)) :
 RdPost G R bb cb f r hb db B hF eof del (.tuple #[i64 (min c.length 1000), .nilIface]) w := by
 have hl : (c.take (min c.length 1000)).length = min c.length 1000 := by rw [List.length_take]; omega
 exact ⟨c.take (min c.length 1000), .nilIface, _, by rw [hl], by omega, got_at, .inl ⟨rfl, by omega, M, (read_A H hh hu hcp hap hat hS).toA⟩⟩
theorem read_A0 (H : Base bb cb r hb B s i hist h) (hh : h = del ++ (c ++ un)) (hu : un.length = s.wr - s.rd) (hcp : c.length ≤ cp2) (hap : a + c.length ≤ 32768) (hat : ∀ j x, c[j]? = some x → hist (a + j) = x) (hc : 0 < c.length) (hr : c.length - min c.length 1000 = 0)
 (hS : Sat G w (blk f 1054 (D { s with toRead := .slice (some ⟨hb, (if cp2 = min c.length 1000 then a else a + min c.length 1000), none⟩) (c.length - min c.length 1000) (cp2 - min c.length 1000) }) :: Br r B i :: blk hb 32768 (fun j => u8 (hist j)) :: Qt false f B hF eof s i h c un (· < M) :: AnyB bb 316 :: AnyB cb 19 :: blk db 1000 (updl F 0 ((c.take (min c.length 1000)).map u8)) :: R)) :
 RdPost G R bb cb f r hb db B hF eof del (.tuple #[i64 (min c.length 1000), s.err]) w := by
 have hl : (c.take (min c.length 1000)).length = min c.length 1000 := by rw [List.length_take]; omega
 have hA := (read_A H hh hu hcp hap hat hS).toA
 rcases (hS.perm p3).qt with ⟨mu, h1, h2, _⟩ | ⟨h1, h2, h3, hS⟩
 ·
  exact ⟨c.take (min c.length 1000), s.err, _, by rw [hl], by omega, got_at, .inl ⟨h1, by omega, M, hA⟩⟩
 refine ⟨c.take (min c.length 1000), s.err, _, by rw [hl], by omega, got_at, .inr ⟨h1, ?_, hS.tail.tail.tail.tail.tail⟩⟩
 rw [List.take_of_length_le (by omega), ← h2, hh, h3, List.append_nil]
theorem read_B {A1 A2 A3 A4 A5 : HProp} {e : Value} (hh : h = del ++ (c ++ un)) (hc0 : c = []) (h2 : h = hF.1) (h3 : un = []) (he : EV hF eof e) (hS : Sat G w (A1 :: A2 :: A3 :: A4 :: A5 :: blk db 1000 F :: R)) :
 RdPost G R bb cb f r hb db B hF eof del (.tuple #[i64 0, e]) w :=
 ⟨[], e, F, rfl, Nat.zero_le _, (fun j x hj => by cases hj), .inr ⟨he, by rw [← h2, hh, hc0, h3]; rfl, hS.tail.tail.tail.tail.tail⟩⟩
end
theorem t154 {G : World} {R : List HProp} {w : World} {bb cb f r hb db M0 : Nat} {B : List Bool} {hF : List Nat × Bool} {del : List Nat} {ea : Addr} {F : Nat → Value} (hE : EOFIs G ea) (hO : OrdIs G) (hBl : B.length < 1099511627776)
 (hS : Sat G w (RSA false bb cb f r hb B hF (.iface 187 (.pointer (some ea))) del (· < M0) :: AnyB bb 316 :: AnyB cb 19 :: blk db 1000 F :: R)) : CallsR Tryz.prog 154 #[.pointer (some ⟨f, 0, none⟩), .slice (some ⟨db, 0, none⟩) 1000 1000] w (RdPost G R bb cb f r hb db B hF (.iface 187 (.pointer (some ea))) del) := by
 refine calls_in (n := 75) [(0, (.pointer (some ⟨f, 0, none⟩))), (1, (.slice (some ⟨db, 0, none⟩) 1000 1000))] Tryz.func154 rfl rfl hS args2 ?_
 refine CT.q (TL.val (r_asg .c) (TL.val (r_asg .c) (TL.e (CT.block (CT.loop (X := Nat) (fun gx => [(0, (.pointer (some ⟨f, 0, none⟩))), (1, (.slice (some ⟨db, 0, none⟩) 1000 1000))]) (fun gx => (RSA false bb cb f r hb B hF (.iface 187 (.pointer (some ea))) del (· < gx)) :: AnyB bb 316 :: AnyB cb 19 :: blk db 1000 (F) :: R) (fun gx => True) (fun gx => gx) (M0) trivial (.refl _) (.cons m2 (.cons m3 .nil)) ?_)))))
 rintro M -
 refine CT.block (CT.seq (CT.seq (CT.rsOpen ?_)))
 intro s i hist h c un p cp H hh hu htr htv
 refine CT.fold (A' := (blk f 1054 (D { s with toRead := .slice p c.length cp }))) a0 (D_eq (by rw [← htv])) (CT.region (TL.m m0 (TL.c m0 (TL.f 1049 fo_103_15 m0 (TL.val (r_ld (v := (.slice p c.length cp)) Tryz.isAgg22 m0 (.t m0) (by decide) (Dget_toRead _)) (TL.val (r_len Tryz.underlying22 (.t m0)) (TL.val (n_gtr c.length 0 (.t m0) .c rfl rfl) (TL.sub (.hd .t5) (TL.e (CT.ifd m0 (fun c12 => ?_) (fun c12 => ?_)))))))))))
 ·
  obtain ⟨a, cp2, htv2, hcp, hap, hat⟩ := htr.at_ c12
  refine CT.fold (A' := (blk f 1054 (D { s with toRead := .slice (some ⟨hb, a, none⟩) c.length cp2 }))) a0 (D_eq (by rw [← htv, htv2])) (CT.sub .t1 (CT.q (TL.m m1 (TL.m m1 (TL.c m0 (TL.f 1049 fo_103_15 m0 (TL.val (r_ld (v := (.slice (some ⟨hb, a, none⟩) c.length cp2)) Tryz.isAgg22 m0 (.t m0) (by decide) (Dget_toRead _)) (TL.perm p6 (TL.w (r_copy (l := (min c.length 1000)) (ds := (c.take (min c.length 1000)).map u8) el_22 (.t m4) (.t m0) rfl (Rds.blk m3 (by simp) (by omega) (fun j x hj => u8_at hat hj)) (ones_map one_u8) (by omega)) ?_)))))))))
  rintro _ w18 ⟨rfl, hS⟩
  refine TW.at hS ?_
  refine TL.a m0 (TL.sub (.hd .t6) (TL.q (TL.m m1 (TL.m m2 (TL.c m0 (TL.f 1049 fo_103_15 m0 (TL.val (r_ld (v := (.slice (some ⟨hb, a, none⟩) c.length cp2)) Tryz.isAgg22 m1 (.t m0) (by decide) (Dget_toRead _)) (TL.m m5 (TL.val (r_slice (off' := (if cp2 = min c.length 1000 then a else a + min c.length 1000)) (m := c.length - (min c.length 1000)) (c' := cp2 - (min c.length 1000)) Tryz.underlying22 Tryz.sizeOf5 (.t m1) (.so (j := (min c.length 1000)) (.t m0) rfl) .no (by first | (show min c.length 1000 ≤ c.length; omega) | (show c.length ≤ cp2; omega)) (by first | (show min c.length 1000 ≤ c.length; omega) | (show c.length ≤ cp2; omega)) (by show (if _ = _ then _ else _ + _ * 1) = _; rw [Nat.mul_one]; rfl) (by simp) (by simp)) (TL.c m6 (TL.f 1049 fo_103_15 m0 (TL.s (r_st (F' := D { s with toRead := .slice (some ⟨hb, (if cp2 = min c.length 1000 then a else a + min c.length 1000), none⟩) (c.length - (min c.length 1000)) (cp2 - (min c.length 1000)) }) Tryz.sizeOf22 (Dsat_toRead (.slice (some ⟨hb, (if cp2 = min c.length 1000 then a else a + min c.length 1000), none⟩) (c.length - (min c.length 1000)) (cp2 - (min c.length 1000)))) a1 (.t m0) (.t m2) (by decide)) (TL.sub .t9 (TL.e (CT.seq (CT.q (TL.m m1 (TL.c m0 (TL.f 1049 fo_103_15 m0 (TL.val (r_ld (v := (.slice (some ⟨hb, (if cp2 = min c.length 1000 then a else a + min c.length 1000), none⟩) (c.length - (min c.length 1000)) (cp2 - (min c.length 1000)))) Tryz.isAgg22 m1 (.t m0) (by decide) (Dget_toRead _)) (TL.val (r_len Tryz.underlying22 (.t m0)) (TL.val (n_eql (c.length - (min c.length 1000)) 0 (.t m0) .c rfl rfl) (TL.sub (.hd .t5) (TL.e (CT.ifd m0 (fun c33 => ?_) (fun c33 => ?_))))))))))))))))))))))))))
  ·
   refine CT.sub .t1 (CT.seq (CT.still fm (by kernel_rfl) ?_))
   refine TS.val (r_move (.t m0)) ?_
   refine TS.val (r_move (.t m2)) ?_
   refine TS.val (r_nil (.t m0)) ?_
   refine TS.val (r_fa (off' := 1048) fo_103_14 (.t m0)) ?_
   refine TS.val (r_ld (v := s.err) Tryz.isAgg82 m1 (.t m0) (by decide) (Dget_err _)) ?_
   refine TS.val (r_asg (.t m4)) ?_
   refine TS.val (r_asg (.t m1)) ?_
   refine TS.nil ?_
   exact TL.sub (.hd (.hd .t5)) (TL.e (CT.ret (EX.then_ret (EX.then_ret (EX.bret (EX.then_ret (EX.bret (EX.perm p6 (EX.perm p6 (EX.perm p6 (EX.perm p6 (EX.perm p6 (EX.perm p6 (EX.end_ (.inl rfl) (res2 Tryz.results154 m1 m0) (fun _ hS => read_A0 H hh hu hcp hap hat (by omega) (by omega) hS)))))))))))))))
  exact CT.sub .t1 (CT.skip (EX.q (TL.m m0 (TL.a m0 (TL.val (r_asg .c) (TL.sub (.hd (.hd .t1)) (TL.e (CT.ret (EX.then_ret (EX.bret (EX.then_ret (EX.bret (EX.perm p6 (EX.perm p6 (EX.perm p6 (EX.perm p6 (EX.perm p6 (EX.perm p6 (EX.end_ (.inl rfl) (res2 Tryz.results154 m1 m0) (fun _ hS => read_A1 H hh hu hcp hap hat (by omega) (by omega) hS))))))))))))))))))))
 have hc0 : c = [] := List.length_eq_zero_iff.1 (by omega)
 refine CT.sub .t1 (CT.skip (EX.seq (CT.seq (CT.seq (CT.perm p3 (CT.qtSplit (fun mu herr hmu => ?_) (fun et ev hei hev hhF hun => ?_) ⟨_, rfl⟩))))))
 ·
  refine CT.fold (A' := (blk f 1054 (D { s with err := .nilIface, toRead := .slice p c.length cp }))) a1 (D_eq (by rw [herr])) (CT.region (TL.m m0 (TL.c m0 (TL.f 1048 fo_103_14 m0 (TL.val (r_ld (v := .nilIface) Tryz.isAgg82 m1 (.t m0) (by decide) (Dget_err _)) (TL.val (r_nen Tryz.underlying82 (.t m0)) (TL.sub (.hd .t4) (TL.e (CT.iff_ m0 ?_)))))))))
  refine CT.sub .t1 (CT.skip (EX.seq (CT.seq (CT.plStep (fun hst => ?_) (fun hst => ?_) (fun hst => ?_)))))
  ·
   refine CT.fold (A' := (blk f 1054 (D { s with step := .func (.func 68) #[] #[], err := .nilIface, toRead := .slice p c.length cp }))) a1 (D_eq (by rw [hst])) (CT.region (TL.m m0 (TL.c m0 (TL.f 1045 fo_103_11 m0 (TL.val (r_ld (v := (.func (.func 68) #[] #[])) Tryz.isAgg100 m1 (.t m0) (by decide) (Dget_step _)) (TL.m m4 (TL.fold (A' := (blk f 1054 (D s))) a1 (D_eq (by rw [← herr, ← hst, ← htv])) ?_)))))))
   refine TL.perm p5 (TL.perm p5 (TL.perm p2 (TL.perm p5 (TL.perm p5 (TL.perm p5 (TL.call (r_callv ce_68 m1 (.cons (.t m0) .nil)) (fun w hS => step68 (un := un) (mu := mu) hE hBl hO (by rw [hc0, List.nil_append] at hh; rw [← hh]; exact H) hu (by rw [hc0] at htr; exact htr) herr (by rw [hc0, List.nil_append] at hh; rw [← hh]; exact hS) hst) ?_))))))
   rintro v54 w54 hS
   refine TW.at hS ?_
   refine TL.sub .t6 (TL.e (CT.seq (CT.rsOpen ?_)))
   intro s1 i1 hist1 h1 c1 un1 p1 cp1 H1 hh1 hu1 htr1 htv1
   refine CT.fold (A' := (blk f 1054 (D { s1 with toRead := .slice p1 c1.length cp1 }))) a0 (D_eq (by rw [← htv1])) (CT.perm p3 (CT.qtSplit (fun mu1 herr1 hmu1 => ?_) (fun et1 ev1 hei1 hev1 hhF1 hun1 => ?_) ⟨_, rfl⟩))
   ·
    refine CT.fold (A' := (blk f 1054 (D { s1 with err := .nilIface, toRead := .slice p1 c1.length cp1 }))) a1 (D_eq (by rw [herr1])) (CT.region (TL.m m0 (TL.c m0 (TL.f 1048 fo_103_14 m0 (TL.val (r_ld (v := .nilIface) Tryz.isAgg82 m1 (.t m0) (by decide) (Dget_err _)) (TL.val (r_nen Tryz.underlying82 (.t m0)) (TL.m m0 (TL.gn m0 (TL.gn m0 (TL.gn m0 (TL.gn m0 (TL.gn m0 (TL.gn m0 (TL.val (r_pickf (.t m0) .c) (TL.sub (.hd .t6) (TL.e (CT.iff_ m0 ?_)))))))))))))))))
    refine CT.sub .t1 (CT.skip (EX.bnormal (EX.fold (A' := (blk f 1054 (D s1))) a1 (D_eq (by rw [← herr1, ← htv1])) (EX.perm p3 (EX.perm p3 (EX.perm p3 (EX.conv (fun _ hS => RS.toA (z := false) (del := del) (ok := (· < mu)) (eof := (.iface 187 (.pointer (some ea)))) ⟨s1, i1, hist1, h1, c1, un1, H1, hh1, hu1, htr1, .inl ⟨herr1, mu1, hmu1, hS⟩⟩) ?_)))))))
    exact EX.again mu trivial hmu (.refl _) (.cons m0 (.cons m1 .nil))
   refine CT.fold (A' := (blk f 1054 (D { s1 with err := .iface et1 ev1, toRead := .slice p1 c1.length cp1 }))) a0 (D_eq (by rw [hei1])) ?_
   rw [hei1] at hev1
   refine CT.region (TL.m m0 (TL.c m0 (TL.f 1048 fo_103_14 m0 (TL.val (r_ld (v := (.iface et1 ev1)) Tryz.isAgg82 m0 (.t m0) (by decide) (Dget_err _)) (TL.val (r_nei Tryz.underlying82 (.t m0)) (TL.m m0 (TL.gv m0 (r_move (.t m6)) (TL.gv m1 (r_nil (.t m0)) (TL.gv m2 (r_fa (off' := 1049) fo_103_15 (.t m0)) (TL.gv m3 (r_ld (v := (.slice p1 c1.length cp1)) Tryz.isAgg22 m0 (.t m0) (by decide) (Dget_toRead _)) (TL.gv m4 (r_len Tryz.underlying22 (.t m0)) (TL.gv m5 (n_eql c1.length 0 (.t m0) .c rfl rfl) (TL.val (r_pickt (.t m6) (.t m0)) (TL.sub (.hd .t12) (TL.e (CT.ifd m0 (fun c67 => ?_) (fun c67 => ?_)))))))))))))))))
   ·
    have hc1 : c1 = [] := List.length_eq_zero_iff.1 c67
    rw [hc1, List.nil_append] at hh1
    have hw0 := H1.win
    rw [hh1] at hw0
    have hw1 := H1.rw_
    have hw2 := H1.wl
    refine CT.fold (A' := (blk f 1054 (D { s1 with hist := .slice (some ⟨hb, 0, none⟩) 32768 32768, err := .iface et1 ev1, toRead := .slice p1 c1.length cp1 }))) a0 (D_eq (by rw [H1.hi])) (CT.sub .t1 (CT.region (TL.m m0 (TL.m m1 (TL.c m0 (TL.f 1037 fo_103_9 m0 (TL.call (r_call ce_108 (.cons (.t m0) .nil)) (fun w hS => t108 f hb { s1 with hist := .slice (some ⟨hb, 0, none⟩) 32768 32768, err := .iface et1 ev1, toRead := .slice p1 c1.length cp1 } (by show s1.rd ≤ s1.wr; omega) (by show s1.wr ≤ 32768; omega) (by show s1.rd < 32768; omega) hS) ?_)))))))
    rintro z72 w72 ⟨hz72, hS⟩
    replace hz72 : z72 = (.slice (some ⟨hb, s1.rd, none⟩) ((s1.wr - s1.rd)) ((32768 - s1.rd))) := hz72
    subst hz72
    replace hS : Sat G w72 (blk f 1054 (D { s1 with hist := .slice (some ⟨hb, 0, none⟩) 32768 32768, wr := s1.wr % 32768, rd := s1.wr % 32768, full := s1.full || decide (s1.wr = 32768), err := .iface et1 ev1, toRead := .slice p1 c1.length cp1 }) :: Br r B i1 :: blk hb 32768 (fun jj => u8 (hist1 jj)) :: AnyB bb 316 :: AnyB cb 19 :: blk db 1000 (F) :: R) := hS
    refine TW.at hS ?_
    refine TL.c m4 (TL.f 1049 fo_103_15 m0 (TL.s (r_st (F' := D { s1 with hist := .slice (some ⟨hb, 0, none⟩) 32768 32768, wr := s1.wr % 32768, rd := s1.wr % 32768, full := s1.full || decide (s1.wr = 32768), err := .iface et1 ev1, toRead := .slice (some ⟨hb, s1.rd, none⟩) ((s1.wr - s1.rd)) ((32768 - s1.rd)) }) Tryz.sizeOf22 (Dsat_toRead (.slice (some ⟨hb, s1.rd, none⟩) ((s1.wr - s1.rd)) ((32768 - s1.rd)))) a0 (.t m0) (.t m2) (by decide)) (TL.sub .t7 (TL.nil (EX.bnormal (EX.perm p2 (EX.perm p2 (EX.perm p2 (EX.conv (fun _ hS => RS.toA (z := false) (del := del) (ok := (· < mu)) (eof := (.iface 187 (.pointer (some ea)))) ⟨{ s1 with hist := .slice (some ⟨hb, 0, none⟩) 32768 32768, wr := s1.wr % 32768, rd := s1.wr % 32768, full := s1.full || decide (s1.wr = 32768), err := .iface et1 ev1, toRead := .slice (some ⟨hb, s1.rd, none⟩) ((s1.wr - s1.rd)) ((32768 - s1.rd)) }, i1, hist1, h1, un1, [], ⟨H1.r_, rfl, H1.win.flush, Nat.le_refl _, Nat.mod_lt _ (by decide), H1.ro, H1.il, H1.ex, H1.sd.mono (Nat.le_refl _)⟩, by rw [List.append_nil]; exact hh1, (Nat.sub_self _).symm, .inr ⟨s1.rd, 32768 - s1.rd, by show Value.slice _ _ _ = _; rw [hu1], by omega, by omega, hw0.tail hw1 hu1⟩, .inr ⟨hev1, hhF1, .inl rfl, hS⟩⟩) ?_)))))))))
    exact EX.again mu trivial hmu (.refl _) (.cons m0 (.cons m1 .nil))
   refine CT.sub .t1 (CT.skip (EX.bnormal (EX.fold (A' := (blk f 1054 (D s1))) a0 (D_eq (by rw [← hei1, ← htv1])) (EX.perm p2 (EX.perm p2 (EX.perm p2 (EX.conv (fun _ hS => RS.toA (z := false) (del := del) (ok := (· < mu)) (eof := (.iface 187 (.pointer (some ea)))) ⟨s1, i1, hist1, h1, c1, un1, H1, hh1, hu1, htr1, .inr ⟨by rw [hei1]; exact hev1, hhF1, hun1.imp id (fun h => absurd (List.length_eq_zero_iff.2 h.2) c67), hS⟩⟩) ?_)))))))
   exact EX.again mu trivial hmu (.refl _) (.cons m0 (.cons m1 .nil))
  ·
   refine CT.fold (A' := (blk f 1054 (D { s with step := .func (.func 110) #[] #[], err := .nilIface, toRead := .slice p c.length cp }))) a1 (D_eq (by rw [hst])) (CT.region (TL.m m0 (TL.c m0 (TL.f 1045 fo_103_11 m0 (TL.val (r_ld (v := (.func (.func 110) #[] #[])) Tryz.isAgg100 m1 (.t m0) (by decide) (Dget_step _)) (TL.m m4 (TL.fold (A' := (blk f 1054 (D s))) a1 (D_eq (by rw [← herr, ← hst, ← htv])) ?_)))))))
   refine TL.perm p5 (TL.perm p5 (TL.perm p2 (TL.perm p5 (TL.perm p5 (TL.perm p5 (TL.call (r_callv ce_110 m1 (.cons (.t m0) .nil)) (fun w hS => step110 (un := un) (mu := mu) hE hBl hO (by rw [hc0, List.nil_append] at hh; rw [← hh]; exact H) hu (by rw [hc0] at htr; exact htr) herr (by rw [hc0, List.nil_append] at hh; rw [← hh]; exact hS) hst) ?_))))))
   rintro v54 w54 hS
   refine TW.at hS ?_
   refine TL.sub .t6 (TL.e (CT.seq (CT.rsOpen ?_)))
   intro s1 i1 hist1 h1 c1 un1 p1 cp1 H1 hh1 hu1 htr1 htv1
   refine CT.fold (A' := (blk f 1054 (D { s1 with toRead := .slice p1 c1.length cp1 }))) a0 (D_eq (by rw [← htv1])) (CT.perm p3 (CT.qtSplit (fun mu1 herr1 hmu1 => ?_) (fun et1 ev1 hei1 hev1 hhF1 hun1 => ?_) ⟨_, rfl⟩))
   ·
    refine CT.fold (A' := (blk f 1054 (D { s1 with err := .nilIface, toRead := .slice p1 c1.length cp1 }))) a1 (D_eq (by rw [herr1])) (CT.region (TL.m m0 (TL.c m0 (TL.f 1048 fo_103_14 m0 (TL.val (r_ld (v := .nilIface) Tryz.isAgg82 m1 (.t m0) (by decide) (Dget_err _)) (TL.val (r_nen Tryz.underlying82 (.t m0)) (TL.m m0 (TL.gn m0 (TL.gn m0 (TL.gn m0 (TL.gn m0 (TL.gn m0 (TL.gn m0 (TL.val (r_pickf (.t m0) .c) (TL.sub (.hd .t6) (TL.e (CT.iff_ m0 ?_)))))))))))))))))
    refine CT.sub .t1 (CT.skip (EX.bnormal (EX.fold (A' := (blk f 1054 (D s1))) a1 (D_eq (by rw [← herr1, ← htv1])) (EX.perm p3 (EX.perm p3 (EX.perm p3 (EX.conv (fun _ hS => RS.toA (z := false) (del := del) (ok := (· < mu)) (eof := (.iface 187 (.pointer (some ea)))) ⟨s1, i1, hist1, h1, c1, un1, H1, hh1, hu1, htr1, .inl ⟨herr1, mu1, hmu1, hS⟩⟩) ?_)))))))
    exact EX.again mu trivial hmu (.refl _) (.cons m0 (.cons m1 .nil))
   refine CT.fold (A' := (blk f 1054 (D { s1 with err := .iface et1 ev1, toRead := .slice p1 c1.length cp1 }))) a0 (D_eq (by rw [hei1])) ?_
   rw [hei1] at hev1
   refine CT.region (TL.m m0 (TL.c m0 (TL.f 1048 fo_103_14 m0 (TL.val (r_ld (v := (.iface et1 ev1)) Tryz.isAgg82 m0 (.t m0) (by decide) (Dget_err _)) (TL.val (r_nei Tryz.underlying82 (.t m0)) (TL.m m0 (TL.gv m0 (r_move (.t m6)) (TL.gv m1 (r_nil (.t m0)) (TL.gv m2 (r_fa (off' := 1049) fo_103_15 (.t m0)) (TL.gv m3 (r_ld (v := (.slice p1 c1.length cp1)) Tryz.isAgg22 m0 (.t m0) (by decide) (Dget_toRead _)) (TL.gv m4 (r_len Tryz.underlying22 (.t m0)) (TL.gv m5 (n_eql c1.length 0 (.t m0) .c rfl rfl) (TL.val (r_pickt (.t m6) (.t m0)) (TL.sub (.hd .t12) (TL.e (CT.ifd m0 (fun c67 => ?_) (fun c67 => ?_)))))))))))))))))
   ·
    have hc1 : c1 = [] := List.length_eq_zero_iff.1 c67
    rw [hc1, List.nil_append] at hh1
    have hw0 := H1.win
    rw [hh1] at hw0
    have hw1 := H1.rw_
    have hw2 := H1.wl
    refine CT.fold (A' := (blk f 1054 (D { s1 with hist := .slice (some ⟨hb, 0, none⟩) 32768 32768, err := .iface et1 ev1, toRead := .slice p1 c1.length cp1 }))) a0 (D_eq (by rw [H1.hi])) (CT.sub .t1 (CT.region (TL.m m0 (TL.m m1 (TL.c m0 (TL.f 1037 fo_103_9 m0 (TL.call (r_call ce_108 (.cons (.t m0) .nil)) (fun w hS => t108 f hb { s1 with hist := .slice (some ⟨hb, 0, none⟩) 32768 32768, err := .iface et1 ev1, toRead := .slice p1 c1.length cp1 } (by show s1.rd ≤ s1.wr; omega) (by show s1.wr ≤ 32768; omega) (by show s1.rd < 32768; omega) hS) ?_)))))))
    rintro z72 w72 ⟨hz72, hS⟩
    replace hz72 : z72 = (.slice (some ⟨hb, s1.rd, none⟩) ((s1.wr - s1.rd)) ((32768 - s1.rd))) := hz72
    subst hz72
    replace hS : Sat G w72 (blk f 1054 (D { s1 with hist := .slice (some ⟨hb, 0, none⟩) 32768 32768, wr := s1.wr % 32768, rd := s1.wr % 32768, full := s1.full || decide (s1.wr = 32768), err := .iface et1 ev1, toRead := .slice p1 c1.length cp1 }) :: Br r B i1 :: blk hb 32768 (fun jj => u8 (hist1 jj)) :: AnyB bb 316 :: AnyB cb 19 :: blk db 1000 (F) :: R) := hS
    refine TW.at hS ?_
    refine TL.c m4 (TL.f 1049 fo_103_15 m0 (TL.s (r_st (F' := D { s1 with hist := .slice (some ⟨hb, 0, none⟩) 32768 32768, wr := s1.wr % 32768, rd := s1.wr % 32768, full := s1.full || decide (s1.wr = 32768), err := .iface et1 ev1, toRead := .slice (some ⟨hb, s1.rd, none⟩) ((s1.wr - s1.rd)) ((32768 - s1.rd)) }) Tryz.sizeOf22 (Dsat_toRead (.slice (some ⟨hb, s1.rd, none⟩) ((s1.wr - s1.rd)) ((32768 - s1.rd)))) a0 (.t m0) (.t m2) (by decide)) (TL.sub .t7 (TL.nil (EX.bnormal (EX.perm p2 (EX.perm p2 (EX.perm p2 (EX.conv (fun _ hS => RS.toA (z := false) (del := del) (ok := (· < mu)) (eof := (.iface 187 (.pointer (some ea)))) ⟨{ s1 with hist := .slice (some ⟨hb, 0, none⟩) 32768 32768, wr := s1.wr % 32768, rd := s1.wr % 32768, full := s1.full || decide (s1.wr = 32768), err := .iface et1 ev1, toRead := .slice (some ⟨hb, s1.rd, none⟩) ((s1.wr - s1.rd)) ((32768 - s1.rd)) }, i1, hist1, h1, un1, [], ⟨H1.r_, rfl, H1.win.flush, Nat.le_refl _, Nat.mod_lt _ (by decide), H1.ro, H1.il, H1.ex, H1.sd.mono (Nat.le_refl _)⟩, by rw [List.append_nil]; exact hh1, (Nat.sub_self _).symm, .inr ⟨s1.rd, 32768 - s1.rd, by show Value.slice _ _ _ = _; rw [hu1], by omega, by omega, hw0.tail hw1 hu1⟩, .inr ⟨hev1, hhF1, .inl rfl, hS⟩⟩) ?_)))))))))
    exact EX.again mu trivial hmu (.refl _) (.cons m0 (.cons m1 .nil))
   refine CT.sub .t1 (CT.skip (EX.bnormal (EX.fold (A' := (blk f 1054 (D s1))) a0 (D_eq (by rw [← hei1, ← htv1])) (EX.perm p2 (EX.perm p2 (EX.perm p2 (EX.conv (fun _ hS => RS.toA (z := false) (del := del) (ok := (· < mu)) (eof := (.iface 187 (.pointer (some ea)))) ⟨s1, i1, hist1, h1, c1, un1, H1, hh1, hu1, htr1, .inr ⟨by rw [hei1]; exact hev1, hhF1, hun1.imp id (fun h => absurd (List.length_eq_zero_iff.2 h.2) c67), hS⟩⟩) ?_)))))))
   exact EX.again mu trivial hmu (.refl _) (.cons m0 (.cons m1 .nil))
  refine CT.fold (A' := (blk f 1054 (D { s with step := .func (.func 89) #[] #[], err := .nilIface, toRead := .slice p c.length cp }))) a1 (D_eq (by rw [hst])) (CT.region (TL.m m0 (TL.c m0 (TL.f 1045 fo_103_11 m0 (TL.val (r_ld (v := (.func (.func 89) #[] #[])) Tryz.isAgg100 m1 (.t m0) (by decide) (Dget_step _)) (TL.m m4 (TL.fold (A' := (blk f 1054 (D s))) a1 (D_eq (by rw [← herr, ← hst, ← htv])) ?_)))))))
  refine TL.perm p5 (TL.perm p5 (TL.perm p2 (TL.perm p5 (TL.perm p5 (TL.perm p5 (TL.call (r_callv ce_89 m1 (.cons (.t m0) .nil)) (fun w hS => step89 (un := un) (mu := mu) hE hBl hO (by rw [hc0, List.nil_append] at hh; rw [← hh]; exact H) hu (by rw [hc0] at htr; exact htr) herr (by rw [hc0, List.nil_append] at hh; rw [← hh]; exact hS) hst) ?_))))))
  rintro v54 w54 hS
  refine TW.at hS ?_
  refine TL.sub .t6 (TL.e (CT.seq (CT.rsOpen ?_)))
  intro s1 i1 hist1 h1 c1 un1 p1 cp1 H1 hh1 hu1 htr1 htv1
  refine CT.fold (A' := (blk f 1054 (D { s1 with toRead := .slice p1 c1.length cp1 }))) a0 (D_eq (by rw [← htv1])) (CT.perm p3 (CT.qtSplit (fun mu1 herr1 hmu1 => ?_) (fun et1 ev1 hei1 hev1 hhF1 hun1 => ?_) ⟨_, rfl⟩))
  ·
   refine CT.fold (A' := (blk f 1054 (D { s1 with err := .nilIface, toRead := .slice p1 c1.length cp1 }))) a1 (D_eq (by rw [herr1])) (CT.region (TL.m m0 (TL.c m0 (TL.f 1048 fo_103_14 m0 (TL.val (r_ld (v := .nilIface) Tryz.isAgg82 m1 (.t m0) (by decide) (Dget_err _)) (TL.val (r_nen Tryz.underlying82 (.t m0)) (TL.m m0 (TL.gn m0 (TL.gn m0 (TL.gn m0 (TL.gn m0 (TL.gn m0 (TL.gn m0 (TL.val (r_pickf (.t m0) .c) (TL.sub (.hd .t6) (TL.e (CT.iff_ m0 ?_)))))))))))))))))
   refine CT.sub .t1 (CT.skip (EX.bnormal (EX.fold (A' := (blk f 1054 (D s1))) a1 (D_eq (by rw [← herr1, ← htv1])) (EX.perm p3 (EX.perm p3 (EX.perm p3 (EX.conv (fun _ hS => RS.toA (z := false) (del := del) (ok := (· < mu)) (eof := (.iface 187 (.pointer (some ea)))) ⟨s1, i1, hist1, h1, c1, un1, H1, hh1, hu1, htr1, .inl ⟨herr1, mu1, hmu1, hS⟩⟩) ?_)))))))
   exact EX.again mu trivial hmu (.refl _) (.cons m0 (.cons m1 .nil))
  refine CT.fold (A' := (blk f 1054 (D { s1 with err := .iface et1 ev1, toRead := .slice p1 c1.length cp1 }))) a0 (D_eq (by rw [hei1])) ?_
  rw [hei1] at hev1
  refine CT.region (TL.m m0 (TL.c m0 (TL.f 1048 fo_103_14 m0 (TL.val (r_ld (v := (.iface et1 ev1)) Tryz.isAgg82 m0 (.t m0) (by decide) (Dget_err _)) (TL.val (r_nei Tryz.underlying82 (.t m0)) (TL.m m0 (TL.gv m0 (r_move (.t m6)) (TL.gv m1 (r_nil (.t m0)) (TL.gv m2 (r_fa (off' := 1049) fo_103_15 (.t m0)) (TL.gv m3 (r_ld (v := (.slice p1 c1.length cp1)) Tryz.isAgg22 m0 (.t m0) (by decide) (Dget_toRead _)) (TL.gv m4 (r_len Tryz.underlying22 (.t m0)) (TL.gv m5 (n_eql c1.length 0 (.t m0) .c rfl rfl) (TL.val (r_pickt (.t m6) (.t m0)) (TL.sub (.hd .t12) (TL.e (CT.ifd m0 (fun c67 => ?_) (fun c67 => ?_)))))))))))))))))
  ·
   have hc1 : c1 = [] := List.length_eq_zero_iff.1 c67
   rw [hc1, List.nil_append] at hh1
   have hw0 := H1.win
   rw [hh1] at hw0
   have hw1 := H1.rw_
   have hw2 := H1.wl
   refine CT.fold (A' := (blk f 1054 (D { s1 with hist := .slice (some ⟨hb, 0, none⟩) 32768 32768, err := .iface et1 ev1, toRead := .slice p1 c1.length cp1 }))) a0 (D_eq (by rw [H1.hi])) (CT.sub .t1 (CT.region (TL.m m0 (TL.m m1 (TL.c m0 (TL.f 1037 fo_103_9 m0 (TL.call (r_call ce_108 (.cons (.t m0) .nil)) (fun w hS => t108 f hb { s1 with hist := .slice (some ⟨hb, 0, none⟩) 32768 32768, err := .iface et1 ev1, toRead := .slice p1 c1.length cp1 } (by show s1.rd ≤ s1.wr; omega) (by show s1.wr ≤ 32768; omega) (by show s1.rd < 32768; omega) hS) ?_)))))))
   rintro z72 w72 ⟨hz72, hS⟩
   replace hz72 : z72 = (.slice (some ⟨hb, s1.rd, none⟩) ((s1.wr - s1.rd)) ((32768 - s1.rd))) := hz72
   subst hz72
   replace hS : Sat G w72 (blk f 1054 (D { s1 with hist := .slice (some ⟨hb, 0, none⟩) 32768 32768, wr := s1.wr % 32768, rd := s1.wr % 32768, full := s1.full || decide (s1.wr = 32768), err := .iface et1 ev1, toRead := .slice p1 c1.length cp1 }) :: Br r B i1 :: blk hb 32768 (fun jj => u8 (hist1 jj)) :: AnyB bb 316 :: AnyB cb 19 :: blk db 1000 (F) :: R) := hS
   refine TW.at hS ?_
   refine TL.c m4 (TL.f 1049 fo_103_15 m0 (TL.s (r_st (F' := D { s1 with hist := .slice (some ⟨hb, 0, none⟩) 32768 32768, wr := s1.wr % 32768, rd := s1.wr % 32768, full := s1.full || decide (s1.wr = 32768), err := .iface et1 ev1, toRead := .slice (some ⟨hb, s1.rd, none⟩) ((s1.wr - s1.rd)) ((32768 - s1.rd)) }) Tryz.sizeOf22 (Dsat_toRead (.slice (some ⟨hb, s1.rd, none⟩) ((s1.wr - s1.rd)) ((32768 - s1.rd)))) a0 (.t m0) (.t m2) (by decide)) (TL.sub .t7 (TL.nil (EX.bnormal (EX.perm p2 (EX.perm p2 (EX.perm p2 (EX.conv (fun _ hS => RS.toA (z := false) (del := del) (ok := (· < mu)) (eof := (.iface 187 (.pointer (some ea)))) ⟨{ s1 with hist := .slice (some ⟨hb, 0, none⟩) 32768 32768, wr := s1.wr % 32768, rd := s1.wr % 32768, full := s1.full || decide (s1.wr = 32768), err := .iface et1 ev1, toRead := .slice (some ⟨hb, s1.rd, none⟩) ((s1.wr - s1.rd)) ((32768 - s1.rd)) }, i1, hist1, h1, un1, [], ⟨H1.r_, rfl, H1.win.flush, Nat.le_refl _, Nat.mod_lt _ (by decide), H1.ro, H1.il, H1.ex, H1.sd.mono (Nat.le_refl _)⟩, by rw [List.append_nil]; exact hh1, (Nat.sub_self _).symm, .inr ⟨s1.rd, 32768 - s1.rd, by show Value.slice _ _ _ = _; rw [hu1], by omega, by omega, hw0.tail hw1 hu1⟩, .inr ⟨hev1, hhF1, .inl rfl, hS⟩⟩) ?_)))))))))
   exact EX.again mu trivial hmu (.refl _) (.cons m0 (.cons m1 .nil))
  refine CT.sub .t1 (CT.skip (EX.bnormal (EX.fold (A' := (blk f 1054 (D s1))) a0 (D_eq (by rw [← hei1, ← htv1])) (EX.perm p2 (EX.perm p2 (EX.perm p2 (EX.conv (fun _ hS => RS.toA (z := false) (del := del) (ok := (· < mu)) (eof := (.iface 187 (.pointer (some ea)))) ⟨s1, i1, hist1, h1, c1, un1, H1, hh1, hu1, htr1, .inr ⟨by rw [hei1]; exact hev1, hhF1, hun1.imp id (fun h => absurd (List.length_eq_zero_iff.2 h.2) c67), hS⟩⟩) ?_)))))))
  exact EX.again mu trivial hmu (.refl _) (.cons m0 (.cons m1 .nil))
 refine CT.fold (A' := (blk f 1054 (D { s with err := .iface et ev, toRead := .slice p c.length cp }))) a0 (D_eq (by rw [hei])) (CT.region (TL.m m0 (TL.c m0 (TL.f 1048 fo_103_14 m0 (TL.val (r_ld (v := (.iface et ev)) Tryz.isAgg82 m0 (.t m0) (by decide) (Dget_err _)) (TL.val (r_nei Tryz.underlying82 (.t m0)) (TL.sub (.hd .t4) (TL.e (CT.ift m0 ?_)))))))))
 refine CT.sub .t1 (CT.seq (CT.still fm (by kernel_rfl) ?_))
 refine TS.val (r_move (.t m0)) ?_
 refine TS.val (r_nil (.t m0)) ?_
 refine TS.val (r_fa (off' := 1048) fo_103_14 (.t m0)) ?_
 refine TS.val (r_ld (v := (.iface et ev)) Tryz.isAgg82 m0 (.t m0) (by decide) (Dget_err _)) ?_
 refine TS.val (r_asg .c) ?_
 refine TS.val (r_asg (.t m1)) ?_
 refine TS.nil ?_
 exact TL.sub (.hd (.hd .t4)) (TL.e (CT.ret (EX.then_ret (EX.bret (EX.then_ret (EX.bret (EX.perm p5 (EX.perm p5 (EX.perm p5 (EX.perm p5 (EX.perm p5 (EX.perm p5 (EX.end_ (.inl rfl) (res2 Tryz.results154 m1 m0) (fun _ hS => read_B hh hc0 hhF (hun.resolve_right (fun h => absurd h.1 (by decide))) (by rw [← hei]; exact hev) hS))))))))))))))
end Go.Eng
namespace Go.Eng
open Go Go.Proofs Go.RowKit Go.Extern.Stop Go.Stop Go.Extern
theorem ras_valueOf27 (t : Addr) (w : World) : (ReflectliteValue.unpack (.iface 123 (.pointer (some t)))).run Tryz.prog w
 = .ok (.agg #[.pointer (some ⟨7, 123, none⟩), .pointer (some ⟨w.heap.size, 0, none⟩), .int .u64 150]) (w.alloc (.cells #[.pointer (some t)] 123)) := by kernel_rfl
theorem ras_type27 (a : Addr) (w : World) : (ReflectliteValue.methodAny (ReflectliteValue.valueError "reflectlite.Value.Type" 0) (fun t _ _ _ => ReflectliteType.toType t) #[.agg #[.pointer (some ⟨7, 123, none⟩), .pointer (some a), .int .u64 150]]).run Tryz.prog w
 = .ok (.iface 170 (.agg #[.pointer (some ⟨7, 123, none⟩)])) w := by kernel_rfl
theorem ras_methodKind (h : Value) (w : World) : (Go.method 318 170 (.agg #[h]) "Kind").run Tryz.prog w = .ok (142, h) w := by kernel_rfl
theorem ras_kind27 (w : World) : ((ReflectliteType.abiMethod fun t => (fun a : Nat => Value.int IntKind.u8 (a : Int)) <$> Rtype.kind t) #[.pointer (some ⟨7, 123, none⟩)]).run Tryz.prog w = .ok (.int .u8 22) w := by kernel_rfl
theorem ras_kind25 (w : World) : ((ReflectliteType.abiMethod fun t => (fun a : Nat => Value.int IntKind.u8 (a : Int)) <$> Rtype.kind t) #[.pointer (some ⟨7, 121, none⟩)]).run Tryz.prog w = .ok (.int .u8 6) w := by kernel_rfl
theorem rlm (z : Sem Value) (f : TypeId → Addr → Nat → Nat → Sem Value) (v : Value) :
 ReflectliteValue.method z f #[v] = (do match ← ReflectliteValue.parts v with | none => z | some (t, a, fl) => f t a fl (fl % 32)) := rfl
theorem ras_parts27 (a : Addr) (w : World) : (ReflectliteValue.parts (.agg #[.pointer (some ⟨7, 123, none⟩), .pointer (some a), .int .u64 150])).run Tryz.prog w = .ok (some (123, a, 150)) w := by kernel_rfl
theorem ras_isNil27 (a p : Addr) (W : World) (ha : W.cell? a = some (.pointer (some p))) :
 (ReflectliteValue.method (ReflectliteValue.valueError "reflectlite.Value.IsNil" 0) ReflectliteValue.isNil #[.agg #[.pointer (some ⟨7, 123, none⟩), .pointer (some a), .int .u64 150]]).run Tryz.prog W = .ok (.bool false) W := by
 rw [rlm]
 simp only [Sem.run_bind, ras_parts27, Result.andThen]
 simp [ReflectliteValue.isNil, loadVar, isAgg, underlying, Tryz.underlying123, ha, Result.andThen]
theorem ras_methodElem (h : Value) (w : World) : (Go.method 318 170 (.agg #[h]) "Elem").run Tryz.prog w = .ok (163, .agg #[h]) w := by kernel_rfl
theorem ras_methodImplements (h : Value) (w : World) : (Go.method 318 170 (.agg #[h]) "Implements").run Tryz.prog w = .ok (164, .agg #[h]) w := by kernel_rfl
theorem ras_methodAssignableTo (h : Value) (w : World) : (Go.method 318 170 (.agg #[h]) "AssignableTo").run Tryz.prog w = .ok (161, .agg #[h]) w := by kernel_rfl
theorem ras_elem27 (w : World) : (ReflectliteType.method ReflectliteType.elem #[.agg #[.pointer (some ⟨7, 123, none⟩)]]).run Tryz.prog w = .ok (.iface 170 (.agg #[.pointer (some ⟨7, 121, none⟩)])) w := by kernel_rfl
theorem ras_implements25 (w : World) : (ReflectliteType.relation "Implements" ReflectliteType.implements_ #[.agg #[.pointer (some ⟨7, 121, none⟩)], .iface 170 (.agg #[.pointer (some ⟨7, 82, none⟩)])]).run Tryz.prog w = .ok (.bool true) w := by kernel_rfl
theorem ras_typeOf25 (v : Value) (w : World) : (ReflectliteType.typeOf #[.iface 121 v]).run Tryz.prog w = .ok (.iface 170 (.agg #[.pointer (some ⟨7, 121, none⟩)])) w := by kernel_rfl
theorem ras_assignable25 (w : World) : (ReflectliteType.relation "AssignableTo" ReflectliteType.assignableTo #[.agg #[.pointer (some ⟨7, 121, none⟩)], .iface 170 (.agg #[.pointer (some ⟨7, 121, none⟩)])]).run Tryz.prog w = .ok (.bool true) w := by kernel_rfl
theorem ras_valueOf25 (e : Int) (w : World) : (ReflectliteValue.unpack (.iface 121 (.int .i64 e))).run Tryz.prog w
 = .ok (.agg #[.pointer (some ⟨7, 121, none⟩), .pointer (some ⟨w.heap.size, 0, none⟩), .int .u64 134]) (w.alloc (.cells #[.int .i64 e] 121)) := by kernel_rfl
theorem ras_elemOf27 (w : World) : (Rtype.elem? 123).run Tryz.prog w = .ok (some 121) w := by kernel_rfl
theorem ras_mk25 (p : Addr) (w : World) : (ReflectliteValue.mk 121 p ReflectliteValue.flagAddr).run Tryz.prog w = .ok (.agg #[.pointer (some ⟨7, 121, none⟩), .pointer (some p), .int .u64 390]) w := by kernel_rfl
theorem ras_elemV27 (a p : Addr) (W : World) (ha : W.cell? a = some (.pointer (some p))) :
 (ReflectliteValue.method (ReflectliteValue.valueError "reflectlite.Value.Elem" 0) ReflectliteValue.elem #[.agg #[.pointer (some ⟨7, 123, none⟩), .pointer (some a), .int .u64 150]]).run Tryz.prog W
  = .ok (.agg #[.pointer (some ⟨7, 121, none⟩), .pointer (some p), .int .u64 390]) W := by
 rw [rlm]
 simp only [Sem.run_bind, ras_parts27, Result.andThen]
 simp [ReflectliteValue.elem, loadVar, isAgg, underlying, Tryz.underlying123, ha, Result.andThen, ras_elemOf27, ras_mk25]
theorem rls (v x : Value) : ReflectliteValue.set #[v, x] = (do
 let (some (dst, a, fl), some (src, b, _)) := (← ReflectliteValue.parts v, ← ReflectliteValue.parts x)
  | unsupported (.noEntry "extern/(internal/reflectlite.Value).Set.zeroValue")
 if fl / ReflectliteValue.flagAddr % 2 == 0 then unsupported (.noEntry "extern/(internal/reflectlite.Value).Set.unaddressable")
 let val ← loadVar src b
 if ← Rtype.directlyAssignable dst src then storeVar dst a val
 else if ← Rtype.implements dst src then
  if (← Rtype.kind src) == 20 then
   match val with
   | .nilIface => unsupported (.noEntry "extern/reflectlite: a nil value of one interface type handed on as a value of another")
   | _ => storeVar dst a val
  else storeVar dst a (.iface src val)
 else panicString ("reflectlite.Set: value of type " ++ (← Rtype.spelt src) ++ " is not assignable to type " ++ (← Rtype.spelt dst))
 pure (.tuple #[])) := rfl
theorem ras_parts25a (a : Addr) (w : World) : (ReflectliteValue.parts (.agg #[.pointer (some ⟨7, 121, none⟩), .pointer (some a), .int .u64 390])).run Tryz.prog w = .ok (some (121, a, 390)) w := by kernel_rfl
theorem ras_parts25 (a : Addr) (w : World) : (ReflectliteValue.parts (.agg #[.pointer (some ⟨7, 121, none⟩), .pointer (some a), .int .u64 134])).run Tryz.prog w = .ok (some (121, a, 134)) w := by kernel_rfl
theorem ras_direct25 (w : World) : (Rtype.directlyAssignable 121 121).run Tryz.prog w = .ok true w := by kernel_rfl
theorem ras_set25 (ta b : Addr) (e : Int) (old : Value) (W : World) (hb : W.cell? b = some (.int .i64 e)) (ht : W.cell? ta = some old) (hf : W.frozen? ta = false) :
 (ReflectliteValue.set #[.agg #[.pointer (some ⟨7, 121, none⟩), .pointer (some ta), .int .u64 390], .agg #[.pointer (some ⟨7, 121, none⟩), .pointer (some b), .int .u64 134]]).run Tryz.prog W
  = .ok (.tuple #[]) (W.setCell ta (.int .i64 e)) := by
 rw [rls]
 simp only [Sem.run_bind, ras_parts25a, ras_parts25, Result.andThen]
 simp [ReflectliteValue.flagAddr, loadVar, isAgg, underlying, Tryz.underlying121, hb, Result.andThen, ras_direct25, storeVar, Value.cells, storeCells, Addr.add]
 rw [run_store Tryz.prog W ta _ _ (by rfl)]
 simp [ht, hf]
set_option maxHeartbeats 4000000 in
theorem as_hit (e : Int) (t : Addr) (old : Value) (w : World) (hg : w.cell? ⟨2, 0, none⟩ = some (.iface 170 (.agg #[.pointer (some ⟨7, 82, none⟩)]))) (ht0 : w.cell? t = some old) (hf0 : w.frozen? t = false) :
 Calls Tryz.prog 83 #[.iface 121 (.int .i64 e), .iface 123 (.pointer (some t))] w fun ev w' => ev = .returned (.bool true) ∧ w' = ((((w.alloc (.cells #[.pointer (some t)] 123)).alloc (.cells #[.pointer (some ⟨7, 123, none⟩), .pointer (some ⟨w.heap.size, 0, none⟩), .int .u64 150] 142)).alloc (.cells #[.pointer (some ⟨7, 123, none⟩), .pointer (some ⟨w.heap.size, 0, none⟩), .int .u64 150] 142)).alloc (.cells #[.int .i64 e] 121)).setCell t (.int .i64 e) := by
 have h6 := @run_callFunc_extern Tryz.prog 100 _ (fun args => ReflectliteValue.unpack (args.getD 0 (.tuple #[]))) Tryz.func100 (by kernel_rfl) (by kernel_rfl) (by kernel_rfl) (by kernel_rfl)
 have h7 := @run_callFunc_extern Tryz.prog 101 _ (ReflectliteValue.methodAny (ReflectliteValue.valueError "reflectlite.Value.Type" 0) (fun t _ _ _ => ReflectliteType.toType t)) Tryz.func101 (by kernel_rfl) (by kernel_rfl) (by kernel_rfl) (by kernel_rfl)
 have h8 := @run_callFunc_extern Tryz.prog 102 _ (ReflectliteValue.method (ReflectliteValue.valueError "reflectlite.Value.IsNil" 0) ReflectliteValue.isNil) Tryz.func102 (by kernel_rfl) (by kernel_rfl) (by kernel_rfl) (by kernel_rfl)
 have h27 := @run_callFunc_extern Tryz.prog 142 _ (ReflectliteType.abiMethod fun t => do pure (.int .u8 (← Rtype.kind t))) Tryz.func142 (by kernel_rfl) (by kernel_rfl) (by kernel_rfl) (by kernel_rfl)
 have h37 := @run_callFunc_extern Tryz.prog 163 _ (ReflectliteType.method ReflectliteType.elem) Tryz.func163 (by kernel_rfl) (by kernel_rfl) (by kernel_rfl) (by kernel_rfl)
 have h38 := @run_callFunc_extern Tryz.prog 164 _ (ReflectliteType.relation "Implements" ReflectliteType.implements_) Tryz.func164 (by kernel_rfl) (by kernel_rfl) (by kernel_rfl) (by kernel_rfl)
 have h10 := @run_callFunc_extern Tryz.prog 120 _ ReflectliteType.typeOf Tryz.func120 (by kernel_rfl) (by kernel_rfl) (by kernel_rfl) (by kernel_rfl)
 have h35 := @run_callFunc_extern Tryz.prog 161 _ (ReflectliteType.relation "AssignableTo" ReflectliteType.assignableTo) Tryz.func161 (by kernel_rfl) (by kernel_rfl) (by kernel_rfl) (by kernel_rfl)
 have h11 := @run_callFunc_extern Tryz.prog 121 _ (ReflectliteValue.method (ReflectliteValue.valueError "reflectlite.Value.Elem" 0) ReflectliteValue.elem) Tryz.func121 (by kernel_rfl) (by kernel_rfl) (by kernel_rfl) (by kernel_rfl)
 have h12 := @run_callFunc_extern Tryz.prog 122 _ ReflectliteValue.set Tryz.func122 (by kernel_rfl) (by kernel_rfl) (by kernel_rfl) (by kernel_rfl)
 have tO := ras_typeOf25
 have mA := ras_methodAssignableTo
 have a25 := ras_assignable25
 have v25 := ras_valueOf25
 have f6 := ras_valueOf27
 have f7 := ras_type27
 have mK := ras_methodKind
 have mE := ras_methodElem
 have mI := ras_methodImplements
 have k27 := ras_kind27
 have k25 := ras_kind25
 have e27 := ras_elem27
 have i25 := ras_implements25
 have n8 := ras_isNil27 ⟨w.heap.size, 0, none⟩ t ((w.alloc (.cells #[.pointer (some t)] 123)).alloc (.cells #[.pointer (some ⟨7, 123, none⟩), .pointer (some ⟨w.heap.size, 0, none⟩), .int .u64 150] 142)) (by simp)
 have hlt : 2 < w.heap.size := by
  rcases Nat.lt_or_ge 2 w.heap.size with h | h
  ·
   exact h
  simp [World.cell?, Array.getElem?_eq_none h] at hg
 have hg2 : ((w.alloc (.cells #[.pointer (some t)] 123)).alloc (.cells #[.pointer (some ⟨7, 123, none⟩), .pointer (some ⟨w.heap.size, 0, none⟩), .int .u64 150] 142)).cell? ⟨2, 0, none⟩ = some (.iface 170 (.agg #[.pointer (some ⟨7, 82, none⟩)])) := by
  rw [World.cell?_alloc_lt _ _ ⟨2, 0, none⟩ (by simp; omega), World.cell?_alloc_lt _ _ ⟨2, 0, none⟩ hlt]; exact hg
 have htl : t.block < w.heap.size := by
  rcases Nat.lt_or_ge t.block w.heap.size with h | h
  ·
   exact h
  simp [World.cell?, Array.getElem?_eq_none h] at ht0
 have el := ras_elemV27 ⟨w.heap.size, 0, none⟩ t (((w.alloc (.cells #[.pointer (some t)] 123)).alloc (.cells #[.pointer (some ⟨7, 123, none⟩), .pointer (some ⟨w.heap.size, 0, none⟩), .int .u64 150] 142)).alloc (.cells #[.pointer (some ⟨7, 123, none⟩), .pointer (some ⟨w.heap.size, 0, none⟩), .int .u64 150] 142)) (by rw [World.cell?_alloc_lt _ _ ⟨w.heap.size, 0, none⟩ (by simp; omega)]; simp)
 have st := ras_set25 t ⟨w.heap.size + 1 + 1 + 1, 0, none⟩ e old ((((w.alloc (.cells #[.pointer (some t)] 123)).alloc (.cells #[.pointer (some ⟨7, 123, none⟩), .pointer (some ⟨w.heap.size, 0, none⟩), .int .u64 150] 142)).alloc (.cells #[.pointer (some ⟨7, 123, none⟩), .pointer (some ⟨w.heap.size, 0, none⟩), .int .u64 150] 142)).alloc (.cells #[.int .i64 e] 121))
  (by rw [World.cell?_alloc_at _ _ _ _ (by simp)]; rfl)
  (by rw [World.cell?_alloc_lt _ _ t (by simp; omega), World.cell?_alloc_lt _ _ t (by simp; omega), World.cell?_alloc_lt _ _ t (by simp; omega), World.cell?_alloc_lt _ _ t htl]; exact ht0)
  (by rw [World.frozen?_alloc_old _ _ t (by simp; omega), World.frozen?_alloc_old _ _ t (by simp; omega), World.frozen?_alloc_old _ _ t (by simp; omega), World.frozen?_alloc_old _ _ t (Nat.ne_of_lt htl)]; exact hf0)
 go_enter Tryz.func83, Tryz.ntmps83
 go_wp2
 refine wp_loop_rounds 1 ?_
 rw [rounds_succ]
 go_wp2
 go_ret
 exact ⟨rfl, rfl⟩
end Go.Eng
namespace Go.Eng
open Go Go.Proofs Go.Infl
structure LaidIs (G : World) (ea eb : Addr) : Prop where
 eof : EOFIs G ea
 ue : G.cell? ⟨1, 0, none⟩ = some (.iface 187 (.pointer (some eb)))
 ord : OrdIs G
 et : G.cell? ⟨2, 0, none⟩ = some (.iface 170 (.agg #[.pointer (some ⟨7, 82, none⟩)]))
theorem equal_ptr {P : Program} {t s e m : Nat} {a : Addr} {ms : Array (String × TypeId)} {info : TypeInfo} (ht : P.underlying t = some (.interface ms)) (hti : ∀ w, (typeInfo s).run P w = .ok info w) (hc : info.comparable = true) (hu : P.underlying s = some (.pointer e)) (hs : ∀ w, (Go.sizeOf e).run P w = .ok (m + 1) w) (w : World) :
 (Op.equal t (.iface s (.pointer (some a))) (.iface s (.pointer (some a)))).run P w = .ok true w := by
 have (d : Nat) : (Op.equalIn (d + 2) t (.iface s (.pointer (some a))) (.iface s (.pointer (some a)))).run P w = .ok true w := by
  simp [Op.equalIn, run_underlying ht, hti, hc, run_underlying hu, hs, sameAddr]
 exact this 9998
theorem equal_ne {P : Program} {t s s' : Nat} {a b : Value} {ms : Array (String × TypeId)} (ht : P.underlying t = some (.interface ms)) (hne : s ≠ s') (w : World) : (Op.equal t (.iface s a) (.iface s' b)).run P w = .ok false w := by
 have (d : Nat) : (Op.equalIn (d + 2) t (.iface s a) (.iface s' b)).run P w = .ok false w := by
  simp [Op.equalIn, run_underlying ht, hne]
 exact this 9998
section
variable {G w : World} {ρ : Env} {n : Nat} {L R : List HProp} {d : Option Tmp} {pos : String} {af : Array Edge} {g : Option (Nat × Bool)} {bb cb f r hb db M : Nat} {B : List Bool} {hF : List Nat × Bool} {del : List Nat} {eof : Value} {ok : Nat → Prop}
theorem r_eqif {t u ty : TypeId} {x y : Operand} {a : Addr} {ms : Array (String × TypeId)} (ht : Tryz.prog.underlying t = some (.interface ms)) (hx : OV ρ x (.iface 187 (.pointer (some a)))) (hy : OV ρ y (.iface 187 (.pointer (some a)))) : Run Tryz.prog G ρ n L ⟨d, .binOp .eql t x y u, ty, pos, af, g⟩ (.bool true) := fun w a' _ ha => by
 have := equal_ptr (a := a) (m := 0) ht Tryz.typeInfo187 rfl Tryz.underlying187 Tryz.sizeOf207 w
 simp [execOp, hx.eval ha, hy.eval ha, eqGuard, binOp, this]
theorem r_neif {t u ty : TypeId} {x y : Operand} {a b : Value} {ms : Array (String × TypeId)} (ht : Tryz.prog.underlying t = some (.interface ms)) (hx : OV ρ x (.iface 121 a)) (hy : OV ρ y (.iface 187 b)) : Run Tryz.prog G ρ n L ⟨d, .binOp .eql t x y u, ty, pos, af, g⟩ (.bool false) := fun w a' _ ha => by
 have := equal_ne (a := a) (b := b) ht (show 121 ≠ 187 by decide) w
 simp [execOp, hx.eval ha, hy.eval ha, eqGuard, binOp, this]
theorem t83 {t : Nat} {F : Nat → Value} {z : Int} (hg : G.cell? ⟨2, 0, none⟩ = some (.iface 170 (.agg #[.pointer (some ⟨7, 82, none⟩)]))) (hS : Sat G w (blk t 1 F :: R)) :
 CallsR Tryz.prog 83 #[.iface 121 (.int .i64 z), .iface 123 (.pointer (some ⟨t, 0, none⟩))] w (fun v w' => v = .bool true ∧ Sat G w' (blk t 1 (upd F 0 (.int .i64 z)) :: R)) := by
 refine Calls.mono (as_hit z ⟨t, 0, none⟩ (F 0) w (hS.base_some hg) (hS.cell (.head _) (by decide)) (hS.frozen (.head _) 0)) fun e w' he => ?_
 obtain ⟨rfl, rfl⟩ := he
 refine ⟨rfl, Sat.setCell (L := blk t 1 F :: R) (i := 0) ?_ (by decide) .here⟩
 have push : ∀ {w : World} {L : List HProp} (cs : Array Value) (T : TypeId), Sat G w L → Sat G (w.alloc (.cells cs T)) L := fun {w} _ cs T h =>
  (h.push (w' := w.alloc (.cells cs T)) (A := fun _ => True) (o := .cells cs T) trivial (fun c t f e => by cases e; rfl) rfl rfl rfl).tail
 exact push _ _ (push _ _ (push _ _ (push _ _ hS)))
theorem RSA_eq {z : Bool} {del' : List Nat} (h : del = del') : ∀ m, RSA z bb cb f r hb B hF eof del ok m → RSA z bb cb f r hb B hF eof del' ok m := by subst h; exact fun _ h => h
theorem afterLen {fin : Bool} {pos : Nat} {rest : List Bool} {h : List Nat} (H : After fin pos rest h hF) : h.length ≤ hF.1.length := by
 cases fin with
 | true => rw [(H.1 rfl).1]; exact Nat.le_refl _
 | false =>
  obtain ⟨st, tail, _, e⟩ := H.2 rfl
  exact e.len
theorem hTailLen {ls ds : List Nat} {fin : Bool} {k : Nat} {bits : List Bool} {h : List Nat} (H : HTail ls ds fin k bits h hF) : h.length ≤ hF.1.length := by
 obtain ⟨its, b1, tl, _, _, _, h3⟩ := H
 have h0 := gives_le h its
 rcases h3 with ⟨rest, _, h3⟩ | ⟨h3, _⟩
 ·
  exact Nat.le_trans h0 (afterLen h3)
 rw [h3]; exact h0
theorem RSA.len {z : Bool} (hS : Sat G w (RSA z bb cb f r hb B hF eof del ok :: R)) : del.length ≤ hF.1.length := by
 obtain ⟨s, i, hist, h, c, un, h1, h2, h3, h4, ⟨h5, mu, h6, hS⟩ | ⟨h5, h6, h7, hS⟩⟩ := hS.rsa
 ·
  have hd : del.length ≤ h.length := by rw [h2, List.length_append]; omega
  obtain ⟨m, hm, _⟩ := hS.obj (show Pl f B hF s i h mu ∈ _ from .tail _ (.tail _ (.tail _ (List.mem_cons_self ..))))
  refine Nat.le_trans hd ?_
  cases hm with
  | blk _ _ _ _ a5 => exact a5.len
  | @copy xs rest _ _ _ _ _ _ _ _ a7 => have := afterLen a7; rw [List.length_append] at this; omega
  | huff _ a2 _ _ a5 =>
   have := hTailLen a5
   split at this
   ·
    exact this
   rw [copyM_length] at this; omega
 rw [← h6, h2, List.length_append]; omega
theorem map_at {F : Nat → Value} {dn : List Nat} {j : Nat} {x : Value} (h : ∀ j x, dn[j]? = some x → F j = u8 x) (hj : (dn.map u8)[j]? = some x) : F (0 + j) = x := by
 rw [List.getElem?_map] at hj
 cases hc : dn[j]? with
 | none => rw [hc] at hj; cases hj
 | some y => rw [hc] at hj; cases hj; rw [Nat.zero_add, h j y hc]
theorem dropB {A X : HProp} (h : Sat G w (A :: X :: R)) : Sat G w (A :: R) := (h.perm p1).tail
end
theorem t66e {G : World} {ea eb : Addr} (hL : LaidIs G ea eb) {R : List HProp} {w : World} (hS : Sat G w (R)) :
 CallsR Tryz.prog 66 #[(.iface 187 (.pointer (some ea)))] w (fun v w' => v = i64 1 ∧ Sat G w' R) := by
 refine calls_in (n := 19) [(0, (.iface 187 (.pointer (some ea))))] Tryz.func66 rfl rfl hS args1 ?_
 refine CT.q (TL.val (r_asg .c) (TL.q (TL.w (r_alloc (F := lst [(.int .i64 0)]) Tryz.zeroValue121 rfl rfl lst_ok) ?_)))
 rintro _ w3 ⟨b3, rfl, hS⟩
 refine TW.at hS ?_
 refine TL.e (CT.seq (CT.block (CT.q (TL.m m2 (TL.val (r_eqi Tryz.underlying82 (.t m0)) (TL.a m0 (TL.sub (.hd .t2) (TL.e (CT.iff_ m0 ?_)))))))))
 refine CT.sub .t1 (CT.q (TL.m m2 (TL.val (r_ldc (v := (.iface 187 (.pointer (some ea)))) Tryz.isAgg82 .g (fun w hS => hS.base_some hL.eof)) (TL.val (r_eqif Tryz.underlying82 (.t m1) (.t m0)) (TL.a m0 (TL.sub (.hd .t3) (TL.e (CT.ift m0 ?_))))))))
 exact CT.sub .t1 (CT.q (TL.rm .h1 (TL.val (r_asg .c) (TL.e (CT.ret (EX.bret (EX.then_ret (EX.end_ (.inl rfl) (res1 Tryz.results66 m0) (fun _ hS => ⟨rfl, hS.tail⟩)))))))))
theorem t66c {G : World} {ea eb : Addr} {z : Int} (hL : LaidIs G ea eb) {R : List HProp} {w : World} (hS : Sat G w (R)) :
 CallsR Tryz.prog 66 #[(.iface 121 (.int .i64 z))] w (fun v w' => v = i64 3 ∧ Sat G w' R) := by
 refine calls_in (n := 19) [(0, (.iface 121 (.int .i64 z)))] Tryz.func66 rfl rfl hS args1 ?_
 refine CT.q (TL.val (r_asg .c) (TL.q (TL.w (r_alloc (F := lst [(.int .i64 0)]) Tryz.zeroValue121 rfl rfl lst_ok) ?_)))
 rintro _ w3 ⟨b3, rfl, hS⟩
 refine TW.at hS ?_
 refine TL.e (CT.seq (CT.block (CT.q (TL.m m2 (TL.val (r_eqi Tryz.underlying82 (.t m0)) (TL.a m0 (TL.sub (.hd .t2) (TL.e (CT.iff_ m0 ?_)))))))))
 refine CT.sub .t1 (CT.q (TL.m m2 (TL.val (r_ldc (v := (.iface 187 (.pointer (some ea)))) Tryz.isAgg82 .g (fun w hS => hS.base_some hL.eof)) (TL.val (r_neif Tryz.underlying82 (.t m1) (.t m0)) (TL.a m0 (TL.sub (.hd .t3) (TL.e (CT.iff_ m0 ?_))))))))
 refine CT.sub .t1 (CT.q (TL.m m2 (TL.val (r_ldc (v := (.iface 187 (.pointer (some eb)))) Tryz.isAgg82 .g (fun w hS => hS.base_some hL.ue)) (TL.val (r_neif Tryz.underlying82 (.t m1) (.t m0)) (TL.a m0 (TL.sub (.hd .t3) (TL.e (CT.iff_ m0 ?_))))))))
 refine CT.sub .t1 (CT.q (TL.m m2 (TL.val (r_mki Tryz.underlying123 (.t m1)) (TL.call (r_call ce_83 (.cons (.t m1) (.cons (.t m0) .nil))) (fun w hS => t83 hL.et hS) ?_))))
 rintro _ w18 ⟨rfl, hS⟩
 refine TW.at hS ?_
 refine TL.a m0 (TL.sub (.hd .t4) (TL.e (CT.ift m0 ?_)))
 exact CT.sub .t1 (CT.q (TL.rm .here (TL.val (r_asg .c) (TL.e (CT.ret (EX.bret (EX.then_ret (EX.end_ (.inl rfl) (res1 Tryz.results66 m0) (fun _ hS => ⟨rfl, hS.tail⟩)))))))))
theorem t41 {G : World} {bb cb f r hb M0 : Nat} {B : List Bool} {dd out : List Nat} {gd : Bool} {ea eb : Addr} (hL : LaidIs G ea eb) (hBl : B.length < 1099511627776) (ho : out.length ≤ 131072) {R : List HProp} {w : World} (hS : Sat G w (RSA false bb cb f r hb B (dd ++ out, gd) (.iface 187 (.pointer (some ea))) dd (· < M0) :: AnyB bb 316 :: AnyB cb 19 :: R)) :
 CallsR Tryz.prog 41 #[(.iface 107 (.pointer (some ⟨f, 0, none⟩))), (.int .i64 131072)] w (fun v w' => ∃ (v1 : Value) (c : Nat), v = .tuple #[v1, i64 c] ∧ (gd = true ∧ c = 1 ∨ gd = false ∧ c = 3) ∧ Sat G w' (slc 1 v1 out.length (out.map u8) :: R)) := by
 refine calls_in (n := 32) [(0, (.iface 107 (.pointer (some ⟨f, 0, none⟩)))), (1, (.int .i64 131072))] Tryz.func41 rfl rfl hS args2 ?_
 refine CT.q (TL.val (r_asg .c) (TL.val (r_asg .c) (TL.q (TL.val (r_asg .c) (TL.q (TL.w (r_make (l := 1000) (c := 1000) Tryz.underlying22 Tryz.sizeOf5 ⟨_, Tryz.typeInfo5, rfl⟩ Tryz.zeroValue5 rfl .c .c rfl rfl (by omega) (by exact Nat.le_of_ble_eq_true rfl) (by omega)) ?_))))))
 rintro _ w10 ⟨b10, rfl, hS⟩
 refine TW.at hS ?_
 refine TL.a m0 (TL.sub (.hd .t1) (TL.e (CT.seq (CT.block (CT.nilslc 1 ?_)))))
 refine CT.fold (A' := (RSA false bb cb f r hb B (dd ++ out, gd) (.iface 187 (.pointer (some ea))) (dd ++ (([] : List Nat))) (· < M0))) a2 (RSA_eq (by rw [List.append_nil])) (CT.fold (A' := (blk b10 1000 ((fun _ => (.int .u8 0))))) a1 (blk_eq rfl rfl) (CT.perm p1 (CT.perm p4 (CT.perm p4 (CT.perm p4 (CT.perm p4 (CT.loop (X := List Nat × Value × Nat × (Nat → Value)) (fun gx => [(6, gx.2.1), (7, (.slice (some ⟨b10, 0, none⟩) 1000 1000)), (0, (.iface 107 (.pointer (some ⟨f, 0, none⟩)))), (1, (.int .i64 131072))]) (fun gx => (slc 1 gx.2.1 ((gx.1).length) ((gx.1).map u8)) :: RSA false bb cb f r hb B (dd ++ out, gd) (.iface 187 (.pointer (some ea))) (dd ++ gx.1) (· < gx.2.2.1) :: AnyB bb 316 :: AnyB cb 19 :: blk b10 1000 gx.2.2.2 :: R) (fun gx => (gx.1).length ≤ out.length) (fun gx => out.length - (gx.1).length) ((([] : List Nat), (.slice none 0 0), M0, (fun _ => (.int .u8 0)))) (Nat.zero_le _) (.refl _) (.cons m1 (.cons m0 (.cons m4 (.cons m5 .nil)))) ?_)))))))
 rintro ⟨d, v, M, F⟩ hI
 replace hI : d.length ≤ out.length := hI
 refine CT.seq (CT.q (TL.m m0 (TL.val (r_lens Tryz.underlying22 (.t m0) m0) (TL.m m5 (TL.val (n_leq ((d).length) 131072 (.t m1) (.t m0) rfl rfl) (TL.sub (.hd .t3) (TL.e (CT.ifd m0 (fun c14 => ?_) (fun c14 => ?_)))))))))
 ·
  refine CT.sub .t1 (CT.skip (EX.seq (CT.block (CT.q (TL.m m2 (TL.m m2 (TL.perm p4 (TL.perm p4 (TL.perm p4 (TL.perm p4 (TL.call (r_inv ce_154 (.t m1) (mt_107_Read _) (.cons (.t m0) .nil)) (fun w hS => t154 hL.eof hL.ord hBl hS) ?_)))))))))))
  rintro _ w18 ⟨dn, e, F2, rfl, hdl, hdat, ⟨rfl, hdp, M2, hS⟩ | ⟨⟨hgd, rfl⟩ | ⟨hgd, z, rfl⟩, hfin, hS⟩⟩
  ·
   have hlen := RSA.len hS
   simp only [List.length_append] at hlen
   refine TW.at hS ?_
   refine TL.m m0 (TL.val (r_ext (.t m0)) (TL.val (r_ext (.t m1)) (TL.a m1 (TL.a m1 (TL.sub (.hd (.hd .t6)) (TL.q (TL.m m2 (TL.m m4 (TL.m m3 (TL.val (r_slice (off' := 0) (m := dn.length) (c' := 1000) Tryz.underlying22 Tryz.sizeOf5 (.t m1) .no (.so (j := dn.length) (.t m0) rfl) (by first | (show 0 ≤ dn.length; omega) | (show dn.length ≤ 1000; omega)) (by first | (show 0 ≤ dn.length; omega) | (show dn.length ≤ 1000; omega)) (by simp) (by simp) (by simp)) (TL.perm p4 (TL.w (r_append (j := dn.length) (k := d.length) (ds := dn.map u8) el_22 Tryz.underlying22 (.t m3) (.t m0) ⟨_, _, rfl⟩ (Rds.blk m4 (by simp) (by omega) (fun j x hj => map_at hdat hj)) (ones_map one_u8) (by omega) (by omega)) ?_))))))))))))
   rintro v25 w25 hS
   refine TW.at hS ?_
   refine TL.fold (A' := (slc 1 v25 ((d ++ dn).length) ((d ++ dn).map u8))) a0 (slc_eq (by rw [List.length_append]) (List.map_append).symm) ?_
   refine TL.rm .h7 (TL.a m0 (TL.sub (.hd .t5) (TL.q (TL.m m1 (TL.val (r_nen Tryz.underlying82 (.t m0)) (TL.sub (.hd .t1) (TL.e (CT.iff_ m0 ?_))))))))
   exact CT.sub .t1 (CT.skip (EX.bnormal (EX.fold (A' := (RSA false bb cb f r hb B (dd ++ out, gd) (.iface 187 (.pointer (some ea))) (dd ++ (d ++ dn)) (· < M2))) a1 (RSA_eq (by rw [List.append_assoc])) (EX.again ((d ++ dn, v25, M2, F2)) (by show (d ++ dn).length ≤ out.length; rw [List.length_append]; omega) (by show out.length - (d ++ dn).length < out.length - d.length; rw [List.length_append]; omega) (.refl _) (.cons m0 (.sl 3 3 rfl))))))
  ·
   have hout : d ++ dn = out := List.append_cancel_left (by rw [← List.append_assoc]; exact hfin)
   have hlen := congrArg List.length hout
   rw [List.length_append] at hlen
   refine TW.at hS ?_
   refine TL.m m0 (TL.val (r_ext (.t m0)) (TL.val (r_ext (.t m1)) (TL.a m1 (TL.a m1 (TL.sub (.hd (.hd .t6)) (TL.q (TL.m m2 (TL.m m4 (TL.m m3 (TL.val (r_slice (off' := 0) (m := dn.length) (c' := 1000) Tryz.underlying22 Tryz.sizeOf5 (.t m1) .no (.so (j := dn.length) (.t m0) rfl) (by first | (show 0 ≤ dn.length; omega) | (show dn.length ≤ 1000; omega)) (by first | (show 0 ≤ dn.length; omega) | (show dn.length ≤ 1000; omega)) (by simp) (by simp) (by simp)) (TL.perm p1 (TL.w (r_append (j := dn.length) (k := d.length) (ds := dn.map u8) el_22 Tryz.underlying22 (.t m3) (.t m0) ⟨_, _, rfl⟩ (Rds.blk m1 (by simp) (by omega) (fun j x hj => map_at hdat hj)) (ones_map one_u8) (by omega) (by omega)) ?_))))))))))))
   rintro v25 w25 hS
   refine TW.at hS ?_
   refine TL.fold (A' := (slc 1 v25 ((d ++ dn).length) ((d ++ dn).map u8))) a0 (slc_eq (by rw [List.length_append]) (List.map_append).symm) ?_
   refine TL.rm .h7 (TL.a m0 (TL.sub (.hd .t5) (TL.q (TL.m m1 (TL.val (r_nei Tryz.underlying82 (.t m0)) (TL.sub (.hd .t1) (TL.e (CT.ift m0 ?_))))))))
   refine CT.sub .t1 (CT.q (TL.m m0 (TL.m m2 (TL.call (r_call ce_66 (.cons (.t m0) .nil)) (fun w hS => t66e hL hS) ?_))))
   rintro _ w30 ⟨rfl, hS⟩
   refine TW.at hS ?_
   exact TL.a m2 (TL.a m1 (TL.sub (.hd (.hd .t3)) (TL.e (CT.ret (EX.bret (EX.then_ret (EX.bret (EX.then_ret (EX.end_ (.inl rfl) (res2 Tryz.results41 m1 m0) (fun _ hS => ⟨v25, 1, rfl, .inl ⟨hgd, rfl⟩, by rw [hout] at hS; exact dropB hS⟩))))))))))
  have hout : d ++ dn = out := List.append_cancel_left (by rw [← List.append_assoc]; exact hfin)
  have hlen := congrArg List.length hout
  rw [List.length_append] at hlen
  refine TW.at hS ?_
  refine TL.m m0 (TL.val (r_ext (.t m0)) (TL.val (r_ext (.t m1)) (TL.a m1 (TL.a m1 (TL.sub (.hd (.hd .t6)) (TL.q (TL.m m2 (TL.m m4 (TL.m m3 (TL.val (r_slice (off' := 0) (m := dn.length) (c' := 1000) Tryz.underlying22 Tryz.sizeOf5 (.t m1) .no (.so (j := dn.length) (.t m0) rfl) (by first | (show 0 ≤ dn.length; omega) | (show dn.length ≤ 1000; omega)) (by first | (show 0 ≤ dn.length; omega) | (show dn.length ≤ 1000; omega)) (by simp) (by simp) (by simp)) (TL.perm p1 (TL.w (r_append (j := dn.length) (k := d.length) (ds := dn.map u8) el_22 Tryz.underlying22 (.t m3) (.t m0) ⟨_, _, rfl⟩ (Rds.blk m1 (by simp) (by omega) (fun j x hj => map_at hdat hj)) (ones_map one_u8) (by omega) (by omega)) ?_))))))))))))
  rintro v25 w25 hS
  refine TW.at hS ?_
  refine TL.fold (A' := (slc 1 v25 ((d ++ dn).length) ((d ++ dn).map u8))) a0 (slc_eq (by rw [List.length_append]) (List.map_append).symm) ?_
  refine TL.rm .h7 (TL.a m0 (TL.sub (.hd .t5) (TL.q (TL.m m1 (TL.val (r_nei Tryz.underlying82 (.t m0)) (TL.sub (.hd .t1) (TL.e (CT.ift m0 ?_))))))))
  refine CT.sub .t1 (CT.q (TL.m m0 (TL.m m2 (TL.call (r_call ce_66 (.cons (.t m0) .nil)) (fun w hS => t66c hL hS) ?_))))
  rintro _ w30 ⟨rfl, hS⟩
  refine TW.at hS ?_
  exact TL.a m2 (TL.a m1 (TL.sub (.hd (.hd .t3)) (TL.e (CT.ret (EX.bret (EX.then_ret (EX.bret (EX.then_ret (EX.end_ (.inl rfl) (res2 Tryz.results41 m1 m0) (fun _ hS => ⟨v25, 3, rfl, .inr ⟨hgd, rfl⟩, by rw [hout] at hS; exact dropB hS⟩))))))))))
 exfalso; omega
end Go.Eng
namespace Go.Eng
open Go Go.Proofs Go.Infl
def Hz (j : Nat) : Value := if j % 515 = 0 then .int .i64 0 else if j % 515 = 513 then .slice none 0 0 else .int .u32 0
def DZ : DS := ⟨.nilIface, .pointer none, 0, 0, 0, Hz, .pointer none, .pointer none, .slice none 0 0, 0, 0, false, 0, 0, 0, 0, .nilFunc, 0, false, .nilIface, .slice none 0 0, .pointer none, .pointer none, 0, 0⟩
theorem z103 : Tryz.zeroCells103.toList = (List.range 1054).map (D DZ) := by kernel_rfl
theorem z105 : Tryz.zeroCells105.toList = (List.range 316).map (fun _ => .int .i64 0) := by kernel_rfl
theorem z106 : (Value.agg #[.int .i64 0, .int .i64 0, .int .i64 0, .int .i64 0, .int .i64 0, .int .i64 0, .int .i64 0, .int .i64 0, .int .i64 0, .int .i64 0, .int .i64 0, .int .i64 0, .int .i64 0, .int .i64 0, .int .i64 0, .int .i64 0, .int .i64 0, .int .i64 0, .int .i64 0]).cells.toList = (List.range 19).map (fun _ => .int .i64 0) := by kernel_rfl
section
variable {P : Program} {G w : World} {ρ : Env} {n : Nat} {L R : List HProp} {v : Value} {d : Option Tmp} {ty : TypeId} {pos : String} {af : Array Edge} {g : Option (Nat × Bool)}
theorem r_ta {s t : TypeId} {x : Operand} (hx : OV ρ x v) {u : Value} (h : ∀ w, (Instr.typeAssert v s t true).run P w = .ok u w) : Run P G ρ n L ⟨d, .typeAssert x s t true, ty, pos, af, g⟩ u := fun w a _ ha => by
 simp [execOp, hx.eval ha, h]
end
theorem hz_ok : HOk Hz := by
 refine ⟨.inr fun j hj => ?_, .inr fun j hj => ?_⟩
 ·
  unfold Hz hz hc
  rw [Nat.mod_eq_of_lt hj]
  by_cases h0 : j = 0
  ·
   rw [if_pos h0, if_pos h0]; rfl
  rw [if_neg h0, if_neg h0]
  by_cases h1 : j < 513
  ·
   rw [if_neg (by omega), if_pos h1]; rfl
  rw [if_neg h1]
  by_cases h2 : j = 513
  ·
   rw [if_pos h2, if_pos h2]
  rw [if_neg h2, if_neg h2]; rfl
 show Hz (515 + j) = _
 unfold Hz hz hc
 rw [Nat.add_mod_left, Nat.mod_eq_of_lt hj]
 by_cases h0 : j = 0
 ·
  rw [if_pos h0, if_pos h0]; rfl
 rw [if_neg h0, if_neg h0]
 by_cases h1 : j < 513
 ·
  rw [if_neg (by omega), if_pos h1]; rfl
 rw [if_neg h1]
 by_cases h2 : j = 513
 ·
  rw [if_pos h2, if_pos h2]
 rw [if_neg h2, if_neg h2]; rfl
theorem ta_87 (r : Nat) (w : World) : (Instr.typeAssert (.iface 49 (.pointer (some ⟨r, 0, none⟩))) 80 87 true).run Tryz.prog w = .ok (.tuple #[.iface 49 (.pointer (some ⟨r, 0, none⟩)), .bool true]) w := by kernel_rfl
end Go.Eng
namespace Go.Eng
open Go Go.Proofs Go.Infl
theorem dict4 {s : DS} {v : Value} {a b : Nat} {c : Bool} : updl (D s) 1037 [v, i64 a, i64 b, .bool c] = D { s with hist := v, wr := a, rd := b, full := c } := by
 show upd (upd (upd (upd (D s) 1037 _) 1038 _) 1039 _) 1040 _ = _
 rw [Dset_hist, Dset_wr, Dset_rd, Dset_full]
theorem ones4 {a b c d : Value} (ha : one a = true := by rfl) (hb : one b = true := by rfl) (hc : one c = true := by rfl) (hd : one d = true := by rfl) : ∀ x ∈ [a, b, c, d], one x = true := fun x hx => by
 rcases List.mem_cons.1 hx with rfl | h
 ·
  exact ha
 exact ones3 hb hc hd x h
theorem any2h {G w : World} {A B : HProp} {L : List HProp} {bb cb n m : Nat} {F F' : Nat → Value} (h : Sat G w (A :: B :: blk bb n F :: blk cb m F' :: L)) : Sat G w (A :: B :: AnyB bb n :: AnyB cb m :: L) := any2 h
theorem drop4 {G w : World} {R : List HProp} {A B C D E : HProp} (h : Sat G w (A :: B :: C :: D :: E :: R)) : Sat G w (A :: B :: C :: D :: R) := ((h.perm p4).tail)
theorem dict_cell {G w : World} {L : List HProp} {dv : Value} {dd : List Nat} {db dc o j : Nat} {v : Value} (hS : Sat G w L) (hm : slc 1 dv dd.length (dd.map u8) ∈ L) (hd : dv = .slice (some ⟨db, 0, none⟩) dd.length dc) (hj : ((dd.drop o).map u8)[j]? = some v) : w.cell? ⟨db, o + j, none⟩ = some v :=
 hS.slc_cell hm hd (by rw [List.map_drop, List.getElem?_drop] at hj; exact hj)
theorem win_d {dd : List Nat} {n : Nat} (h : dd.length < 32768) (hn : dd.length = n) : Win (updh (fun _ => 0) 0 dd) n false dd := by
 have := Win.zero.write (xs := dd) (by omega)
 rw [Nat.zero_add, hn] at this
 exact this
theorem win_f {dd : List Nat} (h : dd.length = 32768) : Win (updh (fun _ => 0) 0 dd) 0 true dd := by
 have := (Win.zero.write (xs := dd) (by omega)).flush
 simp only [Nat.zero_add, h] at this
 exact this
theorem win_l {dd : List Nat} (h : 32768 < dd.length) : Win (updh (fun _ => 0) 0 (dd.drop (dd.length - 32768))) 0 true dd := by
 have hl : (dd.drop (dd.length - 32768)).length = 32768 := by rw [List.length_drop]; omega
 obtain ⟨h1, h2, h3, h4⟩ := win_f hl
 refine ⟨h1, (fun h => by cases h), (fun _ => by omega), fun j hj1 hj2 => ?_⟩
 rw [h4 j (by omega) hj2, hl]
 simp only [List.getD_eq_getElem?_getD]
 rw [List.getElem?_drop, show dd.length - 32768 + (32768 - 1 - j) = dd.length - 1 - j by omega]
theorem start_rs {G w : World} {R : List HProp} {f r hb bb cb wr' : Nat} {full' : Bool} {hist : Nat → Nat} {B st tail : List Bool} {dd out : List Nat} {gd : Bool} {ea : Addr} (hB : B = st ++ tail) (hst : Strm 0 st dd (dd ++ out, gd)) (hwin : Win hist wr' full' dd) (hwr : wr' < 32768)
 (hS : Sat G w (blk f 1054 (D ⟨(.iface 49 (.pointer (some ⟨r, 0, none⟩))), (.pointer none), 0, 0, 0, Hz, (.pointer (some ⟨bb, 0, none⟩)), (.pointer (some ⟨cb, 0, none⟩)), (.slice (some ⟨hb, 0, none⟩) 32768 32768), wr', wr', full', 0, 0, 0, 0, (.func (.func 68) #[] #[]), 0, false, .nilIface, (.slice none 0 0), (.pointer none), (.pointer none), 0, 0⟩) :: Br r B 0 :: blk hb 32768 (fun j => u8 (hist j)) :: R)) : Sat G w (RSA false bb cb f r hb B (dd ++ out, gd) (.iface 187 (.pointer (some ea))) dd (· < 1000 * B.length + 1) :: R) := by
 refine RS.toA ⟨_, 0, hist, dd, [], [], ⟨rfl, rfl, hwin, Nat.le_refl _, hwr, rfl, Nat.zero_le _, ⟨rfl, rfl, hz_ok⟩, .inl rfl⟩, by rw [List.append_nil, List.append_nil], (Nat.sub_self _).symm, .inl ⟨rfl, rfl⟩, .inl ⟨rfl, 1000 * (B.length - 0), by show _ < _; omega, plEmp ?_ hS⟩⟩
 intro m
 exact .blk (k := 0) (st := st) (tail := tail) rfl (Nat.zero_le _) (Held.zero (i := 0)) (by rw [List.drop_zero]; exact hB) hst rfl (fun _ => rfl)
theorem t70 {sv : Value} {B : List Bool} {G : World} {R : List HProp} {w : World} (hS : Sat G w (slc 1 sv ((pack B).length) ((pack B).map u8) :: R)) :
 CallsR Tryz.prog 70 #[sv] w (fun v w' => ∃ r : Nat, v = .pointer (some ⟨r, 0, none⟩) ∧ Sat G w' (Br r B 0 :: R)) := by
 refine calls_in (n := 6) [(0, sv)] Tryz.func70 rfl rfl hS args1 ?_
 refine CT.q (TL.val (r_asg .c) (TL.e (CT.seq (CT.expose (fun w hS => hS.slc_shape m0) ?_))))
 rintro ⟨-, hsv0⟩
 obtain ⟨sp, sl, sc, hsv⟩ : ∃ p l c, sv = .slice p l c := by rcases hsv0 with ⟨h, _⟩ | ⟨b, c, h, _⟩ <;> exact ⟨_, _, _, h⟩
 refine CT.region (TL.m m1 (TL.val (r_build (v := (.agg #[sv, (.int .i64 0), (.int .i64 ((-1)))])) (.cons (.t m0) (.cons .c (.cons .c .nil))) (fun _ => by rw [hsv]; kernel_rfl)) (TL.w (r_box (F := lst [sv, (.int .i64 0), (.int .i64 ((-1)))]) (.t m0) rfl rfl lst_ok) ?_)))
 rintro _ w5 ⟨b5, rfl, hS⟩
 refine TW.at hS ?_
 exact TL.rm .h3 (TL.a m0 (TL.sub (.hd .t4) (TL.e (CT.ret (EX.end_ (.inl rfl) (res1 Tryz.results70 m0) (fun _ hS => ⟨b5, rfl, hS.unbr⟩))))))
theorem t43 {sv : Value} {B : List Bool} (hBl : B.length < 1099511627776) {G : World} {R : List HProp} {w : World} (hS : Sat G w (slc 1 sv ((pack B).length) ((pack B).map u8) :: R)) :
 CallsR Tryz.prog 43 #[sv] w (fun v w' => ∃ r : Nat, v = .pointer (some ⟨r, 0, none⟩) ∧ Sat G w' (Br r B 0 :: slc 1 sv (pack B).length ((pack B).map u8) :: R)) := by
 have hpl := pack_length B
 refine calls_in (n := 7) [(0, sv)] Tryz.func43 rfl rfl hS args1 ?_
 refine CT.q (TL.val (r_asg .c) (TL.q (TL.w (r_buildSlice (k := 0) (e := 5) (cs := #[]) (F := lst []) .nil (fun _ => by kernel_rfl) rfl lst_ok) ?_)))
 rintro _ w3 ⟨b3, rfl, hS⟩
 refine TW.at hS ?_
 refine TL.m m2 (TL.fold (A' := (slc 1 (.slice (some ⟨b3, 0, none⟩) 0 0) 0 ([]))) a0 (mk_slc1 rfl (by decide) (by intro j x h; cases h)) ?_)
 refine TL.w (r_appends (j := (pack B).length) (k := 0) (ds := (pack B).map u8) el_22 Tryz.underlying22 (.t m1) (.t m0) m1 (ones_map one_u8) (by omega) (by omega)) ?_
 rintro v5 w5 hS
 have ho5 := hS.slc_one
 refine TW.at hS ?_
 refine TL.fold (A' := (slc 1 v5 ((pack B).length) ((pack B).map u8))) a0 (slc_eq (Nat.zero_add _) (List.nil_append _)) ?_
 refine TL.call (r_call ce_70 (.cons (.t m0) .nil)) (fun w hS => t70 (B := B) hS) ?_
 rintro _ w6 ⟨r, rfl, hS⟩
 refine TW.at hS ?_
 exact TL.rm .h4 (TL.a m0 (TL.sub (.hd .t5) (TL.e (CT.ret (EX.end_ (.inl rfl) (res1 Tryz.results43 m0) (fun _ hS => ⟨r, rfl, hS⟩))))))
theorem t67 (f r : Nat) (s : DS) {G : World} {R : List HProp} {w : World} (hS : Sat G w (blk f 1054 (D s) :: R)) :
 CallsR Tryz.prog 67 #[(.pointer (some ⟨f, 0, none⟩)), (.iface 49 (.pointer (some ⟨r, 0, none⟩)))] w (fun v w' => v = .tuple #[] ∧ Sat G w' (blk f 1054 (D { s with r := .iface 49 (.pointer (some ⟨r, 0, none⟩)), rBuf := .pointer none }) :: R)) := by
 refine calls_in (n := 43) [(0, (.pointer (some ⟨f, 0, none⟩))), (1, (.iface 49 (.pointer (some ⟨r, 0, none⟩))))] Tryz.func67 rfl rfl hS args2 ?_
 refine CT.seq (CT.q (TL.m m1 (TL.val (r_ta (.t m0) (ta_87 r)) (TL.m m0 (TL.val (r_ext (.t m0)) (TL.val (r_ext (.t m1)) (TL.a m1 (TL.a m1 (TL.sub (.hd (.hd .t5)) (TL.q (TL.m m0 (TL.sub (.hd .t1) (TL.e (CT.ift m0 ?_))))))))))))))
 exact CT.sub .t1 (CT.q (TL.m m1 (TL.c m0 (TL.f 1 fo_103_1 m0 (TL.s (r_st (F' := D { s with rBuf := .pointer none }) Tryz.sizeOf88 (Dset_rBuf s (.pointer none)) a0 (.t m0) .c (by decide)) (TL.sub .t3 (TL.q (TL.m m1 (TL.m m1 (TL.c m1 (TL.f 0 fo_103_0 m0 (TL.s (r_st (F' := D { s with r := .iface 49 (.pointer (some ⟨r, 0, none⟩)), rBuf := .pointer none }) Tryz.sizeOf87 (Dsat_r (.iface 49 (.pointer (some ⟨r, 0, none⟩)))) a0 (.t m0) (.t m2) (by decide)) (TL.sub .t5 (TL.e (CT.ret (EX.then_ret (EX.end_ (.inl rfl) (res0 Tryz.results67) (fun _ hS => ⟨rfl, hS⟩))))))))))))))))))
theorem t69 (f : Nat) (s : DS) {dv : Value} {dd : List Nat} (hdl : dd.length < 1099511627776) {G : World} {R : List HProp} {w : World} (hS : Sat G w (blk f 1054 (D { s with hist := .slice none 0 0 }) :: slc 1 dv dd.length (dd.map u8) :: R)) :
 CallsR Tryz.prog 69 #[(.pointer (some ⟨f, 1037, none⟩)), (.int .i64 32768), dv] w (fun _ w' => ∃ (hb : Nat) (hist : Nat → Nat) (wr' : Nat) (full' : Bool), Win hist wr' full' dd ∧ wr' < 32768 ∧ Sat G w' (blk f 1054 (D { s with hist := .slice (some ⟨hb, 0, none⟩) 32768 32768, wr := wr', rd := wr', full := full' }) :: blk hb 32768 (fun j => u8 (hist j)) :: slc 1 dv dd.length (dd.map u8) :: R)) := by
 refine calls_in (n := 84) [(0, (.pointer (some ⟨f, 1037, none⟩))), (1, (.int .i64 32768)), (2, dv)] Tryz.func69 rfl rfl hS args3 ?_
 refine CT.q (TL.m m0 (TL.m m1 (TL.c m0 (TL.f 1037 fo_98_0 m0 (TL.val (r_ld (v := (.slice none 0 0)) Tryz.isAgg22 m0 (.t m0) (by decide) (Dget_hist _)) (TL.val (r_build (v := (.agg #[(.slice none 0 0), (.int .i64 0), (.int .i64 0), (.bool false)])) (.cons (.t m0) .nil) (fun _ => by kernel_rfl)) (TL.c m5 (TL.s (r_stagg (cs := [.slice none 0 0, .int .i64 0, .int .i64 0, .bool false]) Tryz.sizeOf98 (.t m0) (.t m1) rfl (by decide) ones4) (TL.fold (A' := (blk f 1054 (D { s with hist := .slice none 0 0, wr := 0, rd := 0, full := false }))) a0 (blk_eq rfl dict4) ?_)))))))))
 refine TL.sub .t7 (TL.e (CT.seq (CT.q (TL.m m0 (TL.c m0 (TL.f 1037 fo_98_0 m0 (TL.val (r_ld (v := (.slice none 0 0)) Tryz.isAgg22 m0 (.t m0) (by decide) (Dget_hist _)) (TL.val (r_cap Tryz.underlying22 (.t m0)) (TL.m m6 (TL.val (show Run _ _ _ _ _ _ (.bool true) from n_lss 0 32768 (.t m1) (.t m0) rfl rfl) (TL.sub (.hd .t6) (TL.e (CT.ift m0 ?_)))))))))))))
 refine CT.sub .t1 (CT.region (TL.m m0 (TL.m m2 (TL.w (r_make (l := 32768) (c := 32768) Tryz.underlying22 Tryz.sizeOf5 ⟨_, Tryz.typeInfo5, rfl⟩ Tryz.zeroValue5 rfl (.t m0) (.t m0) rfl rfl (by omega) (by exact Nat.le_of_ble_eq_true rfl) (by omega)) ?_))))
 rintro _ w22 ⟨b22, rfl, hS⟩
 refine TW.at hS ?_
 refine TL.c m2 (TL.f 1037 fo_98_0 m0 (TL.s (r_st (F' := D { s with hist := .slice (some ⟨b22, 0, none⟩) 32768 32768, wr := 0, rd := 0, full := false }) Tryz.sizeOf22 (Dsat_hist (.slice (some ⟨b22, 0, none⟩) 32768 32768)) a1 (.t m0) (.t m2) (by decide)) (TL.sub .t5 (TL.q (TL.m m0 (TL.m m1 (TL.c m0 (TL.f 1037 fo_98_0 m0 (TL.val (r_ld (v := (.slice (some ⟨b22, 0, none⟩) 32768 32768)) Tryz.isAgg22 m1 (.t m0) (by decide) (Dget_hist _)) (TL.m m6 (TL.val (r_slice (off' := 0) (m := 32768) (c' := 32768) Tryz.underlying22 Tryz.sizeOf5 (.t m1) .no (.so (j := 32768) (.t m0) rfl) (by decide) (by decide) (by simp) (by simp) (by simp)) (TL.c m6 (TL.f 1037 fo_98_0 m0 (TL.s (r_st (F' := D { s with hist := .slice (some ⟨b22, 0, none⟩) 32768 32768, wr := 0, rd := 0, full := false }) Tryz.sizeOf22 (Dsat_hist (.slice (some ⟨b22, 0, none⟩) 32768 32768)) a1 (.t m0) (.t m2) (by decide)) (TL.sub .t9 (TL.e (CT.seq (CT.seq (CT.expose (fun w hS => hS.slc_shape m2) ?_)))))))))))))))))))
 rintro ⟨-, ⟨hd1, hd2⟩ | ⟨db, dc, hd1, hd2⟩⟩
 ·
  refine CT.sub (ρ' := [(0, (.pointer (some ⟨f, 1037, none⟩))), (1, (.int .i64 32768)), (2, (.slice none 0 0))]) (.cons m0 (.cons m1 (.eq m2 hd1 .nil))) (CT.region (TL.m m2 (TL.val (r_len Tryz.underlying22 (.t m0)) (TL.m m2 (TL.c m0 (TL.f 1037 fo_98_0 m0 (TL.val (r_ld (v := (.slice (some ⟨b22, 0, none⟩) 32768 32768)) Tryz.isAgg22 m1 (.t m0) (by decide) (Dget_hist _)) (TL.val (r_len Tryz.underlying22 (.t m0)) (TL.val (show Run _ _ _ _ _ _ (.bool false) from n_gtr 0 32768 (.t m5) (.t m0) rfl rfl) (TL.sub (.hd .t7) (TL.e (CT.iff_ m0 ?_))))))))))))
  refine CT.sub .t1 (CT.skip (EX.q (TL.m m0 (TL.m m1 (TL.c m0 (TL.f 1037 fo_98_0 m0 (TL.val (r_ld (v := (.slice (some ⟨b22, 0, none⟩) 32768 32768)) Tryz.isAgg22 m1 (.t m0) (by decide) (Dget_hist _)) (TL.m m7 (TL.val (show Run _ _ _ _ _ _ (.int .i64 0) from r_copy0 el_22 (.t m1) (.t m0) (by decide)) (TL.c m6 (TL.f 1038 fo_98_1 m0 (TL.s (r_st (F' := D { s with hist := .slice (some ⟨b22, 0, none⟩) 32768 32768, wr := 0, rd := 0, full := false }) Tryz.sizeOf3 (Dsat_wr 0) a1 (.t m0) (.t m2) (by decide)) (TL.sub .t9 (TL.e (CT.seq (CT.seq (CT.still fm (by kernel_rfl) ?_)))))))))))))))))
  refine TS.val (r_move (.t m0)) ?_
  refine TS.val (r_nil (.t m0)) ?_
  refine TS.val (r_fa (off' := 1038) fo_98_1 (.t m0)) ?_
  refine TS.val (r_ld (v := (.int .i64 0)) Tryz.isAgg3 m1 (.t m0) (by decide) (Dget_wr _)) ?_
  refine TS.val (r_move (.t m4)) ?_
  refine TS.val (r_nil (.t m0)) ?_
  refine TS.val (r_fa (off' := 1037) fo_98_0 (.t m0)) ?_
  refine TS.val (r_ld (v := (.slice (some ⟨b22, 0, none⟩) 32768 32768)) Tryz.isAgg22 m1 (.t m0) (by decide) (Dget_hist _)) ?_
  refine TS.val (r_len Tryz.underlying22 (.t m0)) ?_
  refine TS.val (show Run _ _ _ _ _ _ (.bool false) from n_eql 0 32768 (.t m5) (.t m0) rfl rfl) ?_
  refine TS.nil ?_
  refine TL.sub (.hd .t9) (TL.e (CT.iff_ m0 ?_))
  exact CT.sub .t1 (CT.skip (EX.seq (CT.region (TL.m m0 (TL.m m1 (TL.c m0 (TL.f 1038 fo_98_1 m0 (TL.val (r_ld (v := (.int .i64 0)) Tryz.isAgg3 m1 (.t m0) (by decide) (Dget_wr _)) (TL.c m4 (TL.f 1039 fo_98_2 m0 (TL.s (r_st (F' := D { s with hist := .slice (some ⟨b22, 0, none⟩) 32768 32768, wr := 0, rd := 0, full := false }) Tryz.sizeOf3 (Dsat_rd 0) a1 (.t m0) (.t m2) (by decide)) (TL.sub .t7 (TL.nil (EX.fold (A' := (blk b22 32768 (fun jj => u8 ((updh (fun _ => 0) 0 dd) jj)))) a0 (blk_eq rfl (by rw [show dd = [] from List.length_eq_zero_iff.1 hd2, updh_nil]; rfl)) (EX.perm p2 (EX.perm p1 (EX.perm p2 (EX.end_ (.inr rfl) (res0 Tryz.results69) (fun _ hS => ⟨b22, _, 0, false, win_d (by omega) hd2, by decide, hS⟩)))))))))))))))))))
 refine CT.sub (ρ' := [(0, (.pointer (some ⟨f, 1037, none⟩))), (1, (.int .i64 32768)), (2, (.slice (some ⟨db, 0, none⟩) dd.length dc))]) (.cons m0 (.cons m1 (.eq m2 hd1 .nil))) (CT.region (TL.m m2 (TL.val (r_len Tryz.underlying22 (.t m0)) (TL.m m2 (TL.c m0 (TL.f 1037 fo_98_0 m0 (TL.val (r_ld (v := (.slice (some ⟨b22, 0, none⟩) 32768 32768)) Tryz.isAgg22 m1 (.t m0) (by decide) (Dget_hist _)) (TL.val (r_len Tryz.underlying22 (.t m0)) (TL.val (n_gtr dd.length 32768 (.t m5) (.t m0) rfl rfl) (TL.sub (.hd .t7) (TL.e (CT.ifd m0 (fun c41 => ?_) (fun c41 => ?_)))))))))))))
 ·
  refine CT.sub .t1 (CT.region (TL.m m2 (TL.m m3 (TL.val (r_len Tryz.underlying22 (.t m0)) (TL.m m3 (TL.c m0 (TL.f 1037 fo_98_0 m0 (TL.val (r_ld (v := (.slice (some ⟨b22, 0, none⟩) 32768 32768)) Tryz.isAgg22 m1 (.t m0) (by decide) (Dget_hist _)) (TL.val (r_len Tryz.underlying22 (.t m0)) (TL.val (n_sub dd.length 32768 9223372036854775808 (.t m5) (.t m0) rfl rfl (by omega) (by omega)) (TL.val (r_slice (off' := (dd.length - 32768)) (m := dd.length - (dd.length - 32768)) (c' := dc - (dd.length - 32768)) Tryz.underlying22 Tryz.sizeOf5 (.t m8) (.so (j := (dd.length - 32768)) (.t m0) rfl) .no (by (try simp) <;> omega) (by (try simp) <;> omega) (by show (if dc = dd.length - 32768 then 0 else 0 + (dd.length - 32768) * 1) = _; rw [if_neg (by omega)]; omega) (by simp) (by simp)) (TL.rm .h12 (TL.a m0 (TL.sub (.hd .t10) (TL.q (TL.m m1 (TL.m m2 (TL.c m0 (TL.f 1037 fo_98_0 m0 (TL.val (r_ld (v := (.slice (some ⟨b22, 0, none⟩) 32768 32768)) Tryz.isAgg22 m1 (.t m0) (by decide) (Dget_hist _)) (TL.m m5 (TL.w (r_copy (l := 32768) (ds := (dd.drop (dd.length - 32768)).map u8) el_22 (.t m1) (.t m0) (by omega) (Rds.cells (by rw [List.length_map]; rw [List.length_drop]; omega) (fun w hS j v hj => dict_cell hS m2 hd1 hj)) (ones_map one_u8) (by omega)) ?_))))))))))))))))))))))
  rintro _ w58 ⟨rfl, hS⟩
  refine TW.at hS ?_
  refine TL.fold (A' := (blk b22 32768 (fun jj => u8 ((updh (fun _ => 0) 0 (dd.drop (dd.length - 32768))) jj)))) a0 (blk_eq rfl (updl_hist (h := fun _ => 0))) ?_
  refine TL.c m6 (TL.f 1038 fo_98_1 m0 (TL.s (r_st (F' := D { s with hist := .slice (some ⟨b22, 0, none⟩) 32768 32768, wr := 32768, rd := 0, full := false }) Tryz.sizeOf3 (Dsat_wr 32768) a1 (.t m0) (.t m2) (by decide)) (TL.sub .t9 (TL.e (CT.seq (CT.seq (CT.still fm (by kernel_rfl) ?_)))))))
  refine TS.val (r_move (.t m1)) ?_
  refine TS.val (r_nil (.t m0)) ?_
  refine TS.val (r_fa (off' := 1038) fo_98_1 (.t m0)) ?_
  refine TS.val (r_ld (v := (.int .i64 32768)) Tryz.isAgg3 m1 (.t m0) (by decide) (Dget_wr _)) ?_
  refine TS.val (r_move (.t m5)) ?_
  refine TS.val (r_nil (.t m0)) ?_
  refine TS.val (r_fa (off' := 1037) fo_98_0 (.t m0)) ?_
  refine TS.val (r_ld (v := (.slice (some ⟨b22, 0, none⟩) 32768 32768)) Tryz.isAgg22 m1 (.t m0) (by decide) (Dget_hist _)) ?_
  refine TS.val (r_len Tryz.underlying22 (.t m0)) ?_
  refine TS.val (show Run _ _ _ _ _ _ (.bool true) from n_eql 32768 32768 (.t m5) (.t m0) rfl rfl) ?_
  refine TS.nil ?_
  refine TL.sub (.hd .t9) (TL.e (CT.ift m0 ?_))
  exact CT.sub .t1 (CT.q (TL.m m1 (TL.c m0 (TL.f 1038 fo_98_1 m0 (TL.s (r_st (F' := D { s with hist := .slice (some ⟨b22, 0, none⟩) 32768 32768, wr := 0, rd := 0, full := false }) Tryz.sizeOf3 (Dsat_wr 0) a1 (.t m0) .c (by decide)) (TL.sub .t3 (TL.e (CT.region (TL.m m1 (TL.c m0 (TL.f 1040 fo_98_3 m0 (TL.s (r_st (F' := D { s with hist := .slice (some ⟨b22, 0, none⟩) 32768 32768, wr := 0, rd := 0, full := true }) Tryz.sizeOf4 (Dsat_full true) a1 (.t m0) .c (by decide)) (TL.sub .t3 (TL.e (CT.region (TL.m m1 (TL.m m2 (TL.c m0 (TL.f 1038 fo_98_1 m0 (TL.val (r_ld (v := (.int .i64 0)) Tryz.isAgg3 m1 (.t m0) (by decide) (Dget_wr _)) (TL.c m4 (TL.f 1039 fo_98_2 m0 (TL.s (r_st (F' := D { s with hist := .slice (some ⟨b22, 0, none⟩) 32768 32768, wr := 0, rd := 0, full := true }) Tryz.sizeOf3 (Dsat_rd 0) a1 (.t m0) (.t m2) (by decide)) (TL.sub .t7 (TL.nil (EX.perm p2 (EX.perm p1 (EX.perm p2 (EX.end_ (.inr rfl) (res0 Tryz.results69) (fun _ hS => ⟨b22, _, 0, true, win_l c41, by decide, hS⟩))))))))))))))))))))))))))))))
 refine CT.sub .t1 (CT.skip (EX.q (TL.m m0 (TL.m m1 (TL.c m0 (TL.f 1037 fo_98_0 m0 (TL.val (r_ld (v := (.slice (some ⟨b22, 0, none⟩) 32768 32768)) Tryz.isAgg22 m1 (.t m0) (by decide) (Dget_hist _)) (TL.m m7 (TL.w (r_copy (l := dd.length) (ds := dd.map u8) el_22 (.t m1) (.t m0) (by omega) (Rds.cells (by rw [List.length_map]; omega) (fun w hS j v hj => dict_cell hS m2 hd1 (by rw [List.drop_zero]; exact hj))) (ones_map one_u8) (by omega)) ?_)))))))))
 rintro _ w58 ⟨rfl, hS⟩
 refine TW.at hS ?_
 refine TL.fold (A' := (blk b22 32768 (fun jj => u8 ((updh (fun _ => 0) 0 dd) jj)))) a0 (blk_eq rfl (updl_hist (h := fun _ => 0))) ?_
 refine TL.c m6 (TL.f 1038 fo_98_1 m0 (TL.s (r_st (F' := D { s with hist := .slice (some ⟨b22, 0, none⟩) 32768 32768, wr := dd.length, rd := 0, full := false }) Tryz.sizeOf3 (Dsat_wr dd.length) a1 (.t m0) (.t m2) (by decide)) (TL.sub .t9 (TL.e (CT.seq (CT.seq (CT.still fm (by kernel_rfl) ?_)))))))
 refine TS.val (r_move (.t m0)) ?_
 refine TS.val (r_nil (.t m0)) ?_
 refine TS.val (r_fa (off' := 1038) fo_98_1 (.t m0)) ?_
 refine TS.val (r_ld (v := (i64 dd.length)) Tryz.isAgg3 m1 (.t m0) (by decide) (Dget_wr _)) ?_
 refine TS.val (r_move (.t m4)) ?_
 refine TS.val (r_nil (.t m0)) ?_
 refine TS.val (r_fa (off' := 1037) fo_98_0 (.t m0)) ?_
 refine TS.val (r_ld (v := (.slice (some ⟨b22, 0, none⟩) 32768 32768)) Tryz.isAgg22 m1 (.t m0) (by decide) (Dget_hist _)) ?_
 refine TS.val (r_len Tryz.underlying22 (.t m0)) ?_
 refine TS.val (n_eql dd.length 32768 (.t m5) (.t m0) rfl rfl) ?_
 refine TS.nil ?_
 refine TL.sub (.hd .t9) (TL.e (CT.ifd m0 (fun c70 => ?_) (fun c70 => ?_)))
 ·
  exact CT.sub .t1 (CT.q (TL.m m0 (TL.c m0 (TL.f 1038 fo_98_1 m0 (TL.s (r_st (F' := D { s with hist := .slice (some ⟨b22, 0, none⟩) 32768 32768, wr := 0, rd := 0, full := false }) Tryz.sizeOf3 (Dsat_wr 0) a1 (.t m0) .c (by decide)) (TL.sub .t3 (TL.e (CT.region (TL.m m0 (TL.c m0 (TL.f 1040 fo_98_3 m0 (TL.s (r_st (F' := D { s with hist := .slice (some ⟨b22, 0, none⟩) 32768 32768, wr := 0, rd := 0, full := true }) Tryz.sizeOf4 (Dsat_full true) a1 (.t m0) .c (by decide)) (TL.sub .t3 (TL.e (CT.region (TL.m m0 (TL.m m1 (TL.c m0 (TL.f 1038 fo_98_1 m0 (TL.val (r_ld (v := (.int .i64 0)) Tryz.isAgg3 m1 (.t m0) (by decide) (Dget_wr _)) (TL.c m4 (TL.f 1039 fo_98_2 m0 (TL.s (r_st (F' := D { s with hist := .slice (some ⟨b22, 0, none⟩) 32768 32768, wr := 0, rd := 0, full := true }) Tryz.sizeOf3 (Dsat_rd 0) a1 (.t m0) (.t m2) (by decide)) (TL.sub .t7 (TL.nil (EX.perm p2 (EX.perm p1 (EX.perm p2 (EX.end_ (.inr rfl) (res0 Tryz.results69) (fun _ hS => ⟨b22, _, 0, true, win_f (by omega), by decide, hS⟩))))))))))))))))))))))))))))))
 exact CT.sub .t1 (CT.skip (EX.seq (CT.region (TL.m m0 (TL.m m1 (TL.c m0 (TL.f 1038 fo_98_1 m0 (TL.val (r_ld (v := (i64 dd.length)) Tryz.isAgg3 m1 (.t m0) (by decide) (Dget_wr _)) (TL.c m4 (TL.f 1039 fo_98_2 m0 (TL.s (r_st (F' := D { s with hist := .slice (some ⟨b22, 0, none⟩) 32768 32768, wr := dd.length, rd := dd.length, full := false }) Tryz.sizeOf3 (Dsat_rd dd.length) a1 (.t m0) (.t m2) (by decide)) (TL.sub .t7 (TL.nil (EX.perm p2 (EX.perm p1 (EX.perm p2 (EX.end_ (.inr rfl) (res0 Tryz.results69) (fun _ hS => ⟨b22, _, dd.length, false, win_d (by omega) rfl, by omega, hS⟩))))))))))))))))))
theorem t42 (r : Nat) {G : World} {R : List HProp} {w : World} (hS : Sat G w (R)) :
 CallsR Tryz.prog 42 #[(.iface 49 (.pointer (some ⟨r, 0, none⟩)))] w (fun v w' => ∃ (f hb bb cb : Nat) (hist : Nat → Nat) (wr' : Nat) (full' : Bool), v = .iface 107 (.pointer (some ⟨f, 0, none⟩)) ∧ Win hist wr' full' [] ∧ wr' < 32768 ∧ Sat G w' (blk f 1054 (D ⟨(.iface 49 (.pointer (some ⟨r, 0, none⟩))), (.pointer none), 0, 0, 0, Hz, (.pointer (some ⟨bb, 0, none⟩)), (.pointer (some ⟨cb, 0, none⟩)), (.slice (some ⟨hb, 0, none⟩) 32768 32768), wr', wr', full', 0, 0, 0, 0, (.func (.func 68) #[] #[]), 0, false, .nilIface, (.slice none 0 0), (.pointer none), (.pointer none), 0, 0⟩) :: blk hb 32768 (fun j => u8 (hist j)) :: AnyB bb 316 :: AnyB cb 19 :: R)) := by
 refine calls_in (n := 14) [(0, (.iface 49 (.pointer (some ⟨r, 0, none⟩))))] Tryz.func42 rfl rfl hS args1 ?_
 refine CT.q (TL.val (r_asg .c) (TL.q (TL.w (r_allocz Tryz.zeroValue103 z103) ?_)))
 rintro _ w3 ⟨f, rfl, hS⟩
 refine TW.at hS ?_
 refine TL.q (TL.m m2 (TL.call (r_call ce_67 (.cons (.t m1) (.cons (.t m0) .nil))) (fun w hS => t67 f r ⟨.nilIface, (.pointer none), 0, 0, 0, Hz, (.pointer none), (.pointer none), (.slice none 0 0), 0, 0, false, 0, 0, 0, 0, .nilFunc, 0, false, .nilIface, (.slice none 0 0), (.pointer none), (.pointer none), 0, 0⟩ hS) ?_))
 rintro z5 w5 ⟨hz5, hS⟩
 replace hz5 : z5 = (.tuple #[]) := hz5
 subst hz5
 replace hS : Sat G w5 (blk f 1054 (D ⟨(.iface 49 (.pointer (some ⟨r, 0, none⟩))), (.pointer none), 0, 0, 0, Hz, (.pointer none), (.pointer none), (.slice none 0 0), 0, 0, false, 0, 0, 0, 0, .nilFunc, 0, false, .nilIface, (.slice none 0 0), (.pointer none), (.pointer none), 0, 0⟩) :: R) := hS
 refine TW.at hS ?_
 refine TL.sub (.tl (.tl (.hd (.hd .t1)))) (TL.q (TL.w (r_allocz Tryz.zeroValue105 z105) ?_))
 rintro _ w6 ⟨bb, rfl, hS⟩
 refine TW.at hS ?_
 refine TL.f 1035 fo_103_7 m1 (TL.s (r_st (F' := D ⟨(.iface 49 (.pointer (some ⟨r, 0, none⟩))), (.pointer none), 0, 0, 0, Hz, (.pointer (some ⟨bb, 0, none⟩)), (.pointer none), (.slice none 0 0), 0, 0, false, 0, 0, 0, 0, .nilFunc, 0, false, .nilIface, (.slice none 0 0), (.pointer none), (.pointer none), 0, 0⟩) Tryz.sizeOf95 (Dsat_bits (.pointer (some ⟨bb, 0, none⟩))) a1 (.t m0) (.t m1) (by decide)) (TL.sub .t2 (TL.q (TL.w (r_allocz Tryz.zeroValue106 z106) ?_))))
 rintro _ w8 ⟨cb, rfl, hS⟩
 refine TW.at hS ?_
 refine TL.f 1036 fo_103_8 m1 (TL.s (r_st (F' := D ⟨(.iface 49 (.pointer (some ⟨r, 0, none⟩))), (.pointer none), 0, 0, 0, Hz, (.pointer (some ⟨bb, 0, none⟩)), (.pointer (some ⟨cb, 0, none⟩)), (.slice none 0 0), 0, 0, false, 0, 0, 0, 0, .nilFunc, 0, false, .nilIface, (.slice none 0 0), (.pointer none), (.pointer none), 0, 0⟩) Tryz.sizeOf96 (Dsat_cbits (.pointer (some ⟨cb, 0, none⟩))) a2 (.t m0) (.t m1) (by decide)) (TL.sub .t2 (TL.q (TL.f 1045 fo_103_11 m0 (TL.s (r_st (F' := D ⟨(.iface 49 (.pointer (some ⟨r, 0, none⟩))), (.pointer none), 0, 0, 0, Hz, (.pointer (some ⟨bb, 0, none⟩)), (.pointer (some ⟨cb, 0, none⟩)), (.slice none 0 0), 0, 0, false, 0, 0, 0, 0, (.func (.func 68) #[] #[]), 0, false, .nilIface, (.slice none 0 0), (.pointer none), (.pointer none), 0, 0⟩) Tryz.sizeOf100 (Dsat_step (.func (.func 68) #[] #[])) a2 (.t m0) .f (by decide)) (TL.sub .t1 (TL.q (TL.f 1037 fo_103_9 m0 (TL.nilslc 1 ?_)))))))))
 refine TL.perm p3 (TL.call (r_call ce_69 (.cons (.t m0) (.cons .c (.cons .c .nil)))) (fun w hS => t69 f ⟨(.iface 49 (.pointer (some ⟨r, 0, none⟩))), (.pointer none), 0, 0, 0, Hz, (.pointer (some ⟨bb, 0, none⟩)), (.pointer (some ⟨cb, 0, none⟩)), (.slice none 0 0), 0, 0, false, 0, 0, 0, 0, (.func (.func 68) #[] #[]), 0, false, .nilIface, (.slice none 0 0), (.pointer none), (.pointer none), 0, 0⟩ (dv := .slice none 0 0) (dd := []) (by decide) hS) ?_)
 rintro _ w12 ⟨hb, hist, wr', full', hwin, hwr, hS⟩
 refine TW.at hS ?_
 exact TL.sub .t2 (TL.q (TL.val (r_mki Tryz.underlying107 (.t m0)) (TL.rm .h2 (TL.a m0 (TL.sub (.hd .t1) (TL.e (CT.ret (EX.perm p3 (EX.perm p4 (EX.perm p3 (EX.perm p3 (EX.end_ (.inl rfl) (res1 Tryz.results42 m0) (fun _ hS => ⟨f, hb, bb, cb, hist, wr', full', rfl, hwin, hwr, any2h (drop4 hS)⟩)))))))))))))
theorem t50 (r : Nat) {dv : Value} {dd : List Nat} (hdl : dd.length < 1099511627776) {G : World} {R : List HProp} {w : World} (hS : Sat G w (slc 1 dv dd.length (dd.map u8) :: R)) :
 CallsR Tryz.prog 50 #[(.iface 49 (.pointer (some ⟨r, 0, none⟩))), dv] w (fun v w' => ∃ (f hb bb cb : Nat) (hist : Nat → Nat) (wr' : Nat) (full' : Bool), v = .iface 107 (.pointer (some ⟨f, 0, none⟩)) ∧ Win hist wr' full' dd ∧ wr' < 32768 ∧ Sat G w' (blk f 1054 (D ⟨(.iface 49 (.pointer (some ⟨r, 0, none⟩))), (.pointer none), 0, 0, 0, Hz, (.pointer (some ⟨bb, 0, none⟩)), (.pointer (some ⟨cb, 0, none⟩)), (.slice (some ⟨hb, 0, none⟩) 32768 32768), wr', wr', full', 0, 0, 0, 0, (.func (.func 68) #[] #[]), 0, false, .nilIface, (.slice none 0 0), (.pointer none), (.pointer none), 0, 0⟩) :: blk hb 32768 (fun j => u8 (hist j)) :: AnyB bb 316 :: AnyB cb 19 :: slc 1 dv dd.length (dd.map u8) :: R)) := by
 refine calls_in (n := 17) [(0, (.iface 49 (.pointer (some ⟨r, 0, none⟩)))), (1, dv)] Tryz.func50 rfl rfl hS args2 ?_
 refine CT.q (TL.val (r_asg .c) (TL.q (TL.w (r_allocz Tryz.zeroValue103 z103) ?_)))
 rintro _ w5 ⟨f, rfl, hS⟩
 refine TW.at hS ?_
 refine TL.q (TL.m m2 (TL.call (r_call ce_67 (.cons (.t m1) (.cons (.t m0) .nil))) (fun w hS => t67 f r ⟨.nilIface, (.pointer none), 0, 0, 0, Hz, (.pointer none), (.pointer none), (.slice none 0 0), 0, 0, false, 0, 0, 0, 0, .nilFunc, 0, false, .nilIface, (.slice none 0 0), (.pointer none), (.pointer none), 0, 0⟩ hS) ?_))
 rintro z7 w7 ⟨hz7, hS⟩
 replace hz7 : z7 = (.tuple #[]) := hz7
 subst hz7
 replace hS : Sat G w7 (blk f 1054 (D ⟨(.iface 49 (.pointer (some ⟨r, 0, none⟩))), (.pointer none), 0, 0, 0, Hz, (.pointer none), (.pointer none), (.slice none 0 0), 0, 0, false, 0, 0, 0, 0, .nilFunc, 0, false, .nilIface, (.slice none 0 0), (.pointer none), (.pointer none), 0, 0⟩) :: slc 1 dv dd.length (dd.map u8) :: R) := hS
 refine TW.at hS ?_
 refine TL.sub (.tl (.tl (.hd (.hd .t1)))) (TL.q (TL.w (r_allocz Tryz.zeroValue105 z105) ?_))
 rintro _ w8 ⟨bb, rfl, hS⟩
 refine TW.at hS ?_
 refine TL.f 1035 fo_103_7 m1 (TL.s (r_st (F' := D ⟨(.iface 49 (.pointer (some ⟨r, 0, none⟩))), (.pointer none), 0, 0, 0, Hz, (.pointer (some ⟨bb, 0, none⟩)), (.pointer none), (.slice none 0 0), 0, 0, false, 0, 0, 0, 0, .nilFunc, 0, false, .nilIface, (.slice none 0 0), (.pointer none), (.pointer none), 0, 0⟩) Tryz.sizeOf95 (Dsat_bits (.pointer (some ⟨bb, 0, none⟩))) a1 (.t m0) (.t m1) (by decide)) (TL.sub .t2 (TL.q (TL.w (r_allocz Tryz.zeroValue106 z106) ?_))))
 rintro _ w10 ⟨cb, rfl, hS⟩
 refine TW.at hS ?_
 refine TL.f 1036 fo_103_8 m1 (TL.s (r_st (F' := D ⟨(.iface 49 (.pointer (some ⟨r, 0, none⟩))), (.pointer none), 0, 0, 0, Hz, (.pointer (some ⟨bb, 0, none⟩)), (.pointer (some ⟨cb, 0, none⟩)), (.slice none 0 0), 0, 0, false, 0, 0, 0, 0, .nilFunc, 0, false, .nilIface, (.slice none 0 0), (.pointer none), (.pointer none), 0, 0⟩) Tryz.sizeOf96 (Dsat_cbits (.pointer (some ⟨cb, 0, none⟩))) a2 (.t m0) (.t m1) (by decide)) (TL.sub .t2 (TL.q (TL.f 1045 fo_103_11 m0 (TL.s (r_st (F' := D ⟨(.iface 49 (.pointer (some ⟨r, 0, none⟩))), (.pointer none), 0, 0, 0, Hz, (.pointer (some ⟨bb, 0, none⟩)), (.pointer (some ⟨cb, 0, none⟩)), (.slice none 0 0), 0, 0, false, 0, 0, 0, 0, (.func (.func 68) #[] #[]), 0, false, .nilIface, (.slice none 0 0), (.pointer none), (.pointer none), 0, 0⟩) Tryz.sizeOf100 (Dsat_step (.func (.func 68) #[] #[])) a2 (.t m0) .f (by decide)) (TL.sub .t1 (TL.q (TL.f 1037 fo_103_9 m0 (TL.m m3 (TL.perm p3 (TL.perm p3 (TL.call (r_call ce_69 (.cons (.t m1) (.cons .c (.cons (.t m0) .nil)))) (fun w hS => t69 f ⟨(.iface 49 (.pointer (some ⟨r, 0, none⟩))), (.pointer none), 0, 0, 0, Hz, (.pointer (some ⟨bb, 0, none⟩)), (.pointer (some ⟨cb, 0, none⟩)), (.slice none 0 0), 0, 0, false, 0, 0, 0, 0, (.func (.func 68) #[] #[]), 0, false, .nilIface, (.slice none 0 0), (.pointer none), (.pointer none), 0, 0⟩ (by omega) hS) ?_))))))))))))
 rintro _ w15 ⟨hb, hist, wr', full', hwin, hwr, hS⟩
 refine TW.at hS ?_
 exact TL.sub (.tl (.tl (.tl (.hd (.hd .t1))))) (TL.q (TL.val (r_mki Tryz.underlying107 (.t m0)) (TL.rm .h2 (TL.a m0 (TL.sub (.hd .t1) (TL.e (CT.ret (EX.perm p2 (EX.perm p3 (EX.perm p4 (EX.perm p4 (EX.perm p4 (EX.end_ (.inl rfl) (res1 Tryz.results50 m0) (fun _ hS => ⟨f, hb, bb, cb, hist, wr', full', rfl, hwin, hwr, any2h hS⟩))))))))))))))
theorem t18 {G : World} {sv : Value} {B st tail : List Bool} {out : List Nat} {gd : Bool} {ea eb : Addr} (hL : LaidIs G ea eb) (hBl : B.length < 1099511627776) (hB : B = st ++ tail) (hst : Strm 0 st [] ([] ++ out, gd)) (ho : out.length ≤ 131072) {R : List HProp} {w : World} (hS : Sat G w (slc 1 sv ((pack B).length) ((pack B).map u8) :: R)) :
 CallsR Tryz.prog 18 #[sv, (.int .i64 131072)] w (fun v w' => ∃ (v1 : Value) (c : Nat), v = .tuple #[v1, i64 c] ∧ (gd = true ∧ c = 1 ∨ gd = false ∧ c = 3) ∧ Sat G w' (slc 1 v1 out.length (out.map u8) :: slc 1 sv (pack B).length ((pack B).map u8) :: R)) := by
 refine calls_in (n := 14) [(0, sv), (1, (.int .i64 131072))] Tryz.func18 rfl rfl hS args2 ?_
 refine CT.q (TL.val (r_asg .c) (TL.val (r_asg .c) (TL.q (TL.m m2 (TL.call (r_call ce_43 (.cons (.t m0) .nil)) (fun w hS => t43 (B := B) hBl hS) ?_)))))
 rintro _ w7 ⟨r, rfl, hS⟩
 refine TW.at hS ?_
 refine TL.val (r_mki Tryz.underlying49 (.t m0)) (TL.call (r_call ce_42 (.cons (.t m0) .nil)) (fun w hS => t42 r hS) ?_)
 rintro _ w9 ⟨f, hb, bb, cb, hist, wr', full', rfl, hwin, hwr, hS⟩
 refine TW.at hS ?_
 refine TL.m m7 (TL.perm p3 (TL.perm p3 (TL.perm p3 (TL.perm p4 (TL.perm p4 (TL.conv (fun _ hS => start_rs (ea := ea) (st := st) (tail := tail) (gd := gd) (dd := []) (out := out) hB hst hwin hwr hS) (TL.perm p2 (TL.perm p2 (TL.perm p2 (TL.call (r_call ce_41 (.cons (.t m1) (.cons (.t m0) .nil))) (fun w hS => t41 (dd := []) (out := out) hL hBl ho hS) ?_))))))))))
 rintro _ w11 ⟨v1, c, rfl, hgc, hS⟩
 refine TW.at hS ?_
 exact TL.val (r_ext (.t m0)) (TL.val (r_ext (.t m1)) (TL.rm .h9 (TL.a m1 (TL.rm .h9 (TL.a m1 (TL.sub (.hd (.hd .t10)) (TL.e (CT.ret (EX.perm p1 (EX.perm p1 (EX.perm p1 (EX.perm p1 (EX.end_ (.inl rfl) (res2 Tryz.results18 m1 m0) (fun _ hS => ⟨v1, c, rfl, hgc, hS⟩))))))))))))))
theorem t22 {G : World} {sv : Value} {B st tail : List Bool} {out : List Nat} {gd : Bool} {ea eb : Addr} {dv : Value} {dd : List Nat} (hdl : dd.length < 1099511627776) (hL : LaidIs G ea eb) (hBl : B.length < 1099511627776) (hB : B = st ++ tail) (hst : Strm 0 st dd (dd ++ out, gd)) (ho : out.length ≤ 131072) {R : List HProp} {w : World} (hS : Sat G w (slc 1 sv ((pack B).length) ((pack B).map u8) :: slc 1 dv dd.length (dd.map u8) :: R)) :
 CallsR Tryz.prog 22 #[sv, dv, (.int .i64 131072)] w (fun v w' => ∃ (v1 : Value) (c : Nat), v = .tuple #[v1, i64 c] ∧ (gd = true ∧ c = 1 ∨ gd = false ∧ c = 3) ∧ Sat G w' (slc 1 v1 out.length (out.map u8) :: slc 1 sv (pack B).length ((pack B).map u8) :: slc 1 dv dd.length (dd.map u8) :: R)) := by
 refine calls_in (n := 19) [(0, sv), (1, dv), (2, (.int .i64 131072))] Tryz.func22 rfl rfl hS args3 ?_
 refine CT.q (TL.val (r_asg .c) (TL.val (r_asg .c) (TL.q (TL.m m2 (TL.call (r_call ce_43 (.cons (.t m0) .nil)) (fun w hS => t43 (B := B) hBl hS) ?_)))))
 rintro _ w9 ⟨r, rfl, hS⟩
 refine TW.at hS ?_
 refine TL.val (r_mki Tryz.underlying49 (.t m0)) (TL.w (r_buildSlice (k := 0) (e := 5) (cs := #[]) (F := lst []) .nil (fun _ => by kernel_rfl) rfl lst_ok) ?_)
 rintro _ w11 ⟨b11, rfl, hS⟩
 refine TW.at hS ?_
 refine TL.m m7 (TL.fold (A' := (slc 1 (.slice (some ⟨b11, 0, none⟩) 0 0) 0 ([]))) a0 (mk_slc1 rfl (by decide) (by intro j x h; cases h)) ?_)
 refine TL.w (r_appends (j := dd.length) (k := 0) (ds := dd.map u8) el_22 Tryz.underlying22 (.t m1) (.t m0) m3 (ones_map one_u8) (by omega) (by omega)) ?_
 rintro v13 w13 hS
 have ho13 := hS.slc_one
 refine TW.at hS ?_
 refine TL.fold (A' := (slc 1 v13 dd.length (dd.map u8))) a0 (slc_eq (Nat.zero_add _) (List.nil_append _)) ?_
 refine TL.call (r_call ce_50 (.cons (.t m3) (.cons (.t m0) .nil))) (fun w hS => t50 r (by omega) hS) ?_
 rintro _ w14 ⟨f, hb, bb, cb, hist, wr', full', rfl, hwin, hwr, hS⟩
 refine TW.at hS ?_
 refine TL.m m11 (TL.perm p3 (TL.perm p3 (TL.perm p3 (TL.perm p5 (TL.perm p4 (TL.conv (fun _ hS => start_rs (ea := ea) (st := st) (tail := tail) (gd := gd) (dd := dd) (out := out) hB hst hwin hwr hS) (TL.perm p2 (TL.perm p2 (TL.perm p2 (TL.call (r_call ce_41 (.cons (.t m1) (.cons (.t m0) .nil))) (fun w hS => t41 (dd := dd) (out := out) hL hBl ho hS) ?_))))))))))
 rintro _ w16 ⟨v1, c, rfl, hgc, hS⟩
 refine TW.at hS ?_
 refine TL.val (r_ext (.t m0)) (TL.val (r_ext (.t m1)) (TL.rm .h12 (TL.a m1 (TL.rm .h12 (TL.a m1 (TL.sub (.hd (.hd .t14)) (TL.e (CT.ret (EX.perm p3 (EX.perm p3 (EX.perm p2 (EX.perm p3 (EX.conv (fun _ h => h.tail) ?_)))))))))))))
 exact EX.perm p2 (EX.perm p2 (EX.perm p2 (EX.end_ (.inl rfl) (res2 Tryz.results22 m1 m0) (fun _ hS => ⟨v1, c, rfl, hgc, hS⟩))))
end Go.Eng
namespace Go.Eng
open Go Go.Proofs Go.Infl
theorem r_lookupo {P : Program} {G : World} {ρ : Env} {n : Nat} {L : List HProp} {d : Option Tmp} {ty : TypeId} {pos : String} {af : Array Edge} {g : Option (Nat × Bool)} {t kt et b sz : Nat} {kk : IntKind} {f : Int → Option Int} {x y : Operand} {i : Int} {o : Option Int} (ht : P.underlying t = some (.map kt et)) (hk : P.underlying kt = some (.int kk)) (hz : ∀ w, (zeroValue et).run P w = .ok (.int .i64 0) w) (hm : imap b f sz ∈ L)
 (hx : OV ρ x (.map (some b))) (hy : OV ρ y (.int .i64 i)) (e : f i = o) : Run P G ρ n L ⟨d, .lookup t x y true, ty, pos, af, g⟩ (.tuple #[.int .i64 (o.getD 0), .bool o.isSome]) := by subst e; exact r_lookup ht hk hz hm hx hy
def BkF (ls : List Nat) (f : Int → Option Int) : Prop := (∀ i, LOk ls i → f ((ckey ls i : Nat) : Int) = some (i : Int)) ∧ ∀ x y, f x = some y → ∃ i, LOk ls i ∧ x = ((ckey ls i : Nat) : Int)
def Bk (b : Nat) (ls : List Nat) : HProp := hex fun x : (Int → Option Int) × Nat => sep [hpure (BkF ls x.1 ∧ 2 ≤ x.2), imap b x.1 x.2]
theorem Sat.bk {G w : World} {A : HProp} {R : List HProp} {b : Nat} {ls : List Nat} (h : Sat G w (A :: Bk b ls :: R)) : ∃ f sz, BkF ls f ∧ 2 ≤ sz ∧ Sat G w (A :: imap b f sz :: R) := by
 obtain ⟨⟨f, sz⟩, h⟩ := (h.perm p1).ex
 obtain ⟨⟨h1, h2⟩, h3⟩ := (Sat.unsep h).pure
 exact ⟨f, sz, h1, h2, h3.perm p1⟩
theorem Sat.toBk {G w : World} {A : HProp} {R : List HProp} {b sz : Nat} {f : Int → Option Int} {ls : List Nat} (h1 : BkF ls f) (h2 : 2 ≤ sz) (h : Sat G w (A :: imap b f sz :: R)) : Sat G w (A :: Bk b ls :: R) := by
 have h3 : Sat G w (hpure (BkF ls f ∧ 2 ≤ sz) :: imap b f sz :: A :: R) := (h.perm p1).emp ⟨h1, h2⟩
 exact ((Sat.resep (Ls := [hpure (BkF ls f ∧ 2 ≤ sz), imap b f sz]) h3).imp fun m hm => ⟨(f, sz), hm⟩).perm p1
theorem bk_none {ls : List Nat} {f : Int → Option Int} {k j : Nat} (h : BkF ls f) (hf : Fits ls) (hk : LOk ls k) (hj : j < ls.getD k 0) : f ((2 ^ j + codeOf ls k / 2 ^ (ls.getD k 0 - j) : Nat) : Int) = none := by
 cases e : f ((2 ^ j + codeOf ls k / 2 ^ (ls.getD k 0 - j) : Nat) : Int) with
 | none => rfl
 | some y =>
  obtain ⟨i, hi, hx⟩ := h.2 _ _ e
  exact (key_ahead hf hi hk hj (by exact_mod_cast hx.symm)).elim
theorem t93 {p at_ : Nat} {sv dv : Value} {B : List Bool} {out : List Nat} {mb k : Nat} {ls : List Nat} {rest : List Bool} (hA : B.length < 9223372036854775000) (hf : Fits ls) (hok : LOk ls k) (hd : B.drop at_ = symB ls k ++ rest) {G : World} {R : List HProp} {w : World} (hS : Sat G w (Sp p sv B at_ dv out (-1) :: Bk mb ls :: R)) :
 CallsR Tryz.prog 93 #[.pointer (some ⟨p, 0, none⟩), .map (some mb)] w (fun v w' => v = i64 k ∧ Sat G w' (Sp p sv B (at_ + ls.getD k 0) dv out (-1) :: Bk mb ls :: R)) := by
 obtain ⟨fm, sz, hbk, hsz, hS⟩ := hS.bk
 have hfk := hf k hok
 have hl15 := hok.2.2
 have hp15 : 2 ^ ls.getD k 0 ≤ 2 ^ 15 := Nat.pow_le_pow_right (by decide) hl15
 refine calls_in (n := 38) [(0, (.pointer (some ⟨p, 0, none⟩))), (1, (.map (some mb)))] Tryz.func93 rfl rfl hS args2 ?_
 refine CT.q (TL.val (r_asg .c) (TL.q (TL.val (r_asg .c) (TL.e (CT.seq (CT.q (TL.val (r_move .c) (TL.e (CT.block (CT.fold (A' := (Sp p sv (B) (at_ + 0) dv out ((-1)))) a0 (Sp_eq (by omega) rfl) (CT.loop (X := Nat) (fun gx => [(8, (i64 gx)), (5, (i64 (2 ^ gx + codeOf ls k / 2 ^ (ls.getD k 0 - gx)))), (0, (.pointer (some ⟨p, 0, none⟩))), (1, (.map (some mb)))]) (fun gx => (Sp p sv (B) (at_ + gx) dv out ((-1))) :: (imap mb fm sz) :: R) (fun gx => gx < ls.getD k 0 ∧ B.drop (at_ + gx) = cbits (ls.getD k 0 - gx) (codeOf ls k) ++ rest) (fun gx => ls.getD k 0 - gx) 0 (⟨hok.2.1, hd⟩) (.refl _) (.cons m0 (.eq m1 (by first | rfl | (congr 1 <;> omega) | (rw [Nat.sub_zero, Nat.div_eq_of_lt hfk]; rfl)) (.cons m3 (.cons m4 .nil)))) ?_)))))))))))
 rintro j ⟨hI1, hI2⟩
 have hpj : 2 ^ j ≤ 2 ^ 15 := Nat.pow_le_pow_right (by decide) (by omega)
 have hcd := Nat.div_le_self (codeOf ls k) (2 ^ (ls.getD k 0 - j))
 have hd1 : B.drop (at_ + j) = (codeOf ls k).testBit (ls.getD k 0 - (j + 1)) :: (cbits (ls.getD k 0 - (j + 1)) (codeOf ls k) ++ rest) := by rw [hI2, show ls.getD k 0 - j = (ls.getD k 0 - (j + 1)) + 1 by omega, cbits_cons]; rfl
 have hd2 := (drop_cons hd1).2.2
 have hX : 2 * (2 ^ j + codeOf ls k / 2 ^ (ls.getD k 0 - j)) ≤ 2 * (2 ^ 15 + 2 ^ 15) := Nat.mul_le_mul_left 2 (Nat.add_le_add hpj (Nat.le_trans hcd (Nat.le_of_lt (Nat.lt_of_lt_of_le hfk hp15))))
 refine CT.q (TL.val (n_lss j 15 (.t m0) .c rfl rfl) (TL.e (CT.seq (CT.ifd m0 (fun c9 => ?_) (fun c9 => ?_)))))
 ·
  refine CT.sub .t1 (CT.skip (EX.seq (CT.seq (CT.block (CT.q (TL.m m1 (TL.val (n_mul 2 ((2 ^ j + codeOf ls k / 2 ^ (ls.getD k 0 - j))) 9223372036854775808 .c (.t m0) rfl rfl (by exact Nat.lt_of_le_of_lt hX (by decide))) (TL.m m4 (TL.call (r_call ce_71 (.cons (.t m0) .nil)) (fun w hS => t71 (b := ((codeOf ls k).testBit (ls.getD k 0 - (j + 1)))) (rest := (cbits (ls.getD k 0 - (j + 1)) (codeOf ls k) ++ rest)) (by omega) hd1 hS) ?_)))))))))
  rintro _ w13 ⟨rfl, hS⟩
  refine TW.at hS ?_
  refine TL.val (n_add ((2 * (2 ^ j + codeOf ls k / 2 ^ (ls.getD k 0 - j)))) ((Bool.toNat ((codeOf ls k).testBit (ls.getD k 0 - (j + 1))))) 9223372036854775808 (.t m2) (.t m0) rfl rfl (by exact Nat.lt_of_le_of_lt (Nat.add_le_add hX (show Bool.toNat _ ≤ 1 from by cases (codeOf ls k).testBit (ls.getD k 0 - (j + 1)) <;> decide)) (by decide))) (TL.rm .h6 (TL.a m0 (TL.sub (.hd .t5) (TL.sub (.eq m0 (congrArg (fun z : Nat => Value.int .i64 (z : Int)) (code_next hI1)) (.cons m1 (.cons m2 (.cons m3 .nil)))) (TL.e (CT.seq (CT.q (TL.m m2 (TL.call (r_call ce_47 (.cons (.t m0) .nil)) (fun w hS => t47 (r := true) (by decide) hS) ?_)))))))))
  rintro _ w16 ⟨rfl, hS⟩
  refine TW.at hS ?_
  refine TL.val (r_nott (.t m0)) (TL.sub (.hd .t2) (TL.e (CT.iff_ m0 ?_)))
  refine CT.sub .t1 (CT.skip (EX.seq (CT.seq (CT.seq ?_))))
  by_cases hj1 : j + 1 = ls.getD k 0
  ·
   have hfk : fm ((((2 ^ (j + 1) + codeOf ls k / 2 ^ (ls.getD k 0 - (j + 1))) : Nat)) : Int) = some (k : Int) := by rw [← hbk.1 k hok]; unfold ckey; rw [hj1, Nat.sub_self, Nat.pow_zero, Nat.div_one]
   refine CT.region (TL.m m3 (TL.m m1 (TL.val (show Run _ _ _ _ _ _ (.tuple #[(i64 k), (.bool true)]) from r_lookupo Tryz.underlying132 Tryz.underlying3 Tryz.zeroValue3 m1 (.t m1) (.t m0) hfk) (TL.m m0 (TL.val (r_ext (.t m0)) (TL.val (r_ext (.t m1)) (TL.a m1 (TL.a m1 (TL.sub (.hd (.hd .t6)) (TL.q (TL.m m0 (TL.e (CT.ift m0 ?_)))))))))))))
   exact CT.sub .t1 (CT.q (TL.m m1 (TL.a m0 (TL.sub (.hd .t1) (TL.e (CT.ret (EX.then_ret (EX.bret (EX.then_ret (EX.then_ret (EX.bret (EX.then_ret (EX.perm p1 (EX.perm p1 (EX.end_ (.inl rfl) (res1 Tryz.results93 m0) (fun _ hS => ⟨rfl, Sat.toBk hbk hsz (hS.imp (Sp_eq (by omega) rfl))⟩))))))))))))))))
  have hfk : fm ((((2 ^ (j + 1) + codeOf ls k / 2 ^ (ls.getD k 0 - (j + 1))) : Nat)) : Int) = none := bk_none hbk hf hok (by omega)
  refine CT.region (TL.m m3 (TL.m m1 (TL.val (show Run _ _ _ _ _ _ (.tuple #[(.int .i64 0), (.bool false)]) from r_lookupo Tryz.underlying132 Tryz.underlying3 Tryz.zeroValue3 m1 (.t m1) (.t m0) hfk) (TL.m m0 (TL.val (r_ext (.t m0)) (TL.val (r_ext (.t m1)) (TL.a m1 (TL.a m1 (TL.sub (.hd (.hd .t6)) (TL.q (TL.m m0 (TL.e (CT.iff_ m0 ?_)))))))))))))
  refine CT.sub .t1 (CT.skip (EX.q (TL.m m5 (TL.val (r_lenMap Tryz.underlying132 m1 (.t m0)) (TL.val (n_lss sz 2 (.t m0) .c rfl rfl) (TL.m m0 ?_))))))
  by_cases g29 : sz < 2
  ·
   exfalso; omega
  refine TL.sub (.eq m0 (congrArg Value.bool (decide_eq_false g29)) (.eq m1 (congrArg Value.bool (decide_eq_false g29)) (.cons m2 (.cons m3 (.cons m4 (.cons m5 (.cons m6 (.cons m7 (.cons m8 (.cons m9 .nil)))))))))) (TL.gn m0 (TL.gn m0 (TL.gn m0 (TL.gn m0 (TL.val (r_pickf (.t m0) .c) (TL.sub (.hd .t4) (TL.e (CT.iff_ m0 ?_))))))))
  exact CT.sub .t1 (CT.skip (EX.bnormal (EX.seq (CT.region (TL.val (n_add j 1 9223372036854775808 (.t m3) .c rfl rfl (by omega)) (TL.rm .h4 (TL.m m0 (TL.sub (.hd .t1) (TL.nil (EX.fold (A' := (Sp p sv (B) (at_ + (j + 1)) dv out ((-1)))) a0 (Sp_eq (by omega) rfl) (EX.again (j + 1) (⟨by omega, hd2⟩) (by omega) (.refl _) (.eq m0 (by first | rfl | (congr 1 <;> omega) | (rw [Nat.sub_zero, Nat.div_eq_of_lt hfk]; rfl)) (.sl 3 3 rfl)))))))))))))
 exfalso; omega
end Go.Eng
namespace Go.Eng
open Go Go.Proofs Go.Infl
def usedN (ls : List Nat) (k : Nat) : Nat := (ls.take k).countP (fun x => decide (1 ≤ x ∧ x ≤ 15))
def BkFp (ls : List Nat) (f : Int → Option Int) (k : Nat) : Prop := (∀ i, i < k → LOk ls i → f ((ckey ls i : Nat) : Int) = some (i : Int)) ∧ ∀ x y, f x = some y → ∃ i, i < k ∧ LOk ls i ∧ x = ((ckey ls i : Nat) : Int)
def BkP (b : Nat) (ls : List Nat) (k : Nat) : HProp := hex fun x : (Int → Option Int) × Nat => sep [hpure (BkFp ls x.1 k ∧ x.2 = usedN ls k), imap b x.1 x.2]
section
variable {G w : World} {R : List HProp} {b k sz : Nat} {ls : List Nat} {f : Int → Option Int}
theorem bkP_mk (h1 : BkFp ls f k) (h2 : sz = usedN ls k) (h : Sat G w (imap b f sz :: R)) : Sat G w (BkP b ls k :: R) := by
 have h3 : Sat G w (hpure (BkFp ls f k ∧ sz = usedN ls k) :: imap b f sz :: R) := h.emp ⟨h1, h2⟩
 exact (Sat.resep (Ls := [hpure (BkFp ls f k ∧ sz = usedN ls k), imap b f sz]) h3).imp fun m hm => ⟨(f, sz), hm⟩
theorem Sat.bkp (h : Sat G w (BkP b ls k :: R)) : ∃ f sz, BkFp ls f k ∧ sz = usedN ls k ∧ Sat G w (imap b f sz :: R) := by
 obtain ⟨⟨f, sz⟩, h⟩ := h.ex
 obtain ⟨⟨h1, h2⟩, h3⟩ := (Sat.unsep h).pure
 exact ⟨f, sz, h1, h2, h3⟩
theorem CT.bkp {P : Program} {ρ : Env} {n : Nat} {Q : Exit → Act → World → Prop} {c : Code} (hk : ∀ f sz, BkFp ls f k → sz = usedN ls k → CT P c Q ρ n G (imap b f sz :: R)) : CT P c Q ρ n G (BkP b ls k :: R) := fun w a hS ha => by
 obtain ⟨f, sz, h1, h2, h⟩ := hS.bkp
 exact hk f sz h1 h2 w a h ha
theorem bkP_zero (h : Sat G w (imap b (fun _ => none) 0 :: R)) : Sat G w (BkP b ls 0 :: R) := bkP_mk ⟨fun i hi => absurd hi (Nat.not_lt_zero i), fun x y h => by cases h⟩ (by simp [usedN]) h
theorem usedN_succ {x : Nat} (hx : ls[k]? = some x) : usedN ls (k + 1) = usedN ls k + (if 1 ≤ x ∧ x ≤ 15 then 1 else 0) := by
 unfold usedN
 rw [List.take_add_one, hx, List.countP_append]
 by_cases e : 1 ≤ x ∧ x ≤ 15 <;> simp [e]
theorem bkP_put {q0 : Int} {x1 : Nat} (hf : Fits ls) (hok : LOk ls k) (hb : BkFp ls f k) (hsz : sz = usedN ls k) (hx : ls[k]? = some x1) (hq : q0 = ((ckey ls k : Nat) : Int)) (h : Sat G w (imap b (fun q => if q = q0 then some (k : Int) else f q) (if (f q0).isSome then sz else sz + 1) :: R)) : Sat G w (BkP b ls (k + 1) :: R) := by
 subst hq
 have hno : f ((ckey ls k : Nat) : Int) = none := by
  cases e : f ((ckey ls k : Nat) : Int) with
  | none => rfl
  | some y =>
   obtain ⟨i, hi, hio, hix⟩ := hb.2 _ _ e
   have : k = i := key_inj hf hok hio (by exact_mod_cast hix)
   omega
 rw [hno] at h
 have hg : ls.getD k 0 = x1 := by rw [List.getD_eq_getElem?_getD, hx]; rfl
 refine bkP_mk ⟨fun i hi hio => ?_, fun x y hxy => ?_⟩ ?_ h
 ·
  by_cases e : i = k
  ·
   subst e; rw [if_pos rfl]
  rw [if_neg (fun h2 => e (key_inj hf hio hok (by exact_mod_cast h2)))]
  exact hb.1 i (by omega) hio
 ·
  by_cases e : x = ((ckey ls k : Nat) : Int)
  ·
   exact ⟨k, by omega, hok, e⟩
  simp only [if_neg e] at hxy
  obtain ⟨i, h1, h2, h3⟩ := hb.2 x y hxy
  exact ⟨i, by omega, h2, h3⟩
 have hx1 : 1 ≤ x1 ∧ x1 ≤ 15 := by rw [← hg]; exact hok.2
 rw [usedN_succ hx, if_pos hx1, hsz]
 rfl
theorem bkP_skip {x1 : Nat} (hx : ls[k]? = some x1) (hn : ¬ 0 < x1) (h : Sat G w (BkP b ls k :: R)) : Sat G w (BkP b ls (k + 1) :: R) := by
 obtain ⟨f, sz, h1, h2, h⟩ := h.bkp
 have hg : ls.getD k 0 = x1 := by rw [List.getD_eq_getElem?_getD, hx]; rfl
 refine bkP_mk ⟨fun i hi hio => h1.1 i ?_ hio, fun x y hxy => ?_⟩ (by rw [usedN_succ hx, if_neg (by omega), h2]; rfl) h
 ·
  rcases Nat.lt_or_ge i k with h3 | h3
  ·
   exact h3
  obtain rfl : i = k := by omega
  exact absurd hio.2.1 (by omega)
 obtain ⟨i, h3, h4⟩ := h1.2 x y hxy
 exact ⟨i, by omega, h4⟩
theorem codes_at (h : k < ls.length) : ((codes ls).map i64)[k]? = some (i64 (cpart ls 16 0 k)) := by
 unfold codes; rw [List.getElem?_map, List.getElem?_map, List.getElem?_range h]; rfl
theorem ckey_or {x1 : Nat} (hf : Fits ls) (hok : LOk ls k) (hg : ls.getD k 0 = x1) : (((2 ^ x1 ||| codeOf ls k : Nat)) : Int) = ((ckey ls k : Nat) : Int) := by
 have h1 := hf k hok
 unfold ckey
 rw [hg] at *
 have := Nat.two_pow_add_eq_or_of_lt h1 1
 rw [Nat.mul_one] at this
 rw [this]
end
theorem t92 (A : HProp) (ls : List Nat) (lb lo lc : Nat) (hR : ∀ {G w : World} {L : List HProp}, A ∈ L → Sat G w L → ∀ j x, ls[j]? = some x → w.cell? ⟨lb, lo + j, none⟩ = some (i64 x)) (hls : ls.length ≤ 1024) (h15 : ∀ x ∈ ls, x ≤ 15) (hf : Fits ls) {G : World} {R : List HProp} {w : World} (hS : Sat G w (A :: R)) :
 CallsR Tryz.prog 92 #[(.slice (some ⟨lb, lo, none⟩) ls.length lc)] w (fun v w' => ∃ mb, v = .map (some mb) ∧ Sat G w' (BkP mb ls ls.length :: A :: R)) := by
 refine calls_in (n := 31) [(0, (.slice (some ⟨lb, lo, none⟩) ls.length lc))] Tryz.func92 rfl rfl hS args1 ?_
 refine CT.q (TL.val (r_asg .c) (TL.q (TL.w r_makeMap ?_)))
 rintro _ w6 ⟨mb, rfl, hS⟩
 refine TW.at hS ?_
 refine TL.a m0 (TL.sub (.hd .t1) (TL.e (CT.seq (CT.q (TL.m m2 (TL.perm p1 (TL.call (r_call ce_79 (.cons (.t m0) .nil)) (fun w hS => t79 A ls lb lo lc hR hls hS) ?_)))))))
 rintro v8 w8 hS
 refine TW.at hS ?_
 refine TL.val (r_lens Tryz.underlying42 (.t m0) m0) (TL.val (r_move .c) (TL.sub (.hd (.hd (.hd .t1))) (TL.e (CT.block (CT.perm p2 (CT.conv (fun _ h => bkP_zero (ls := ls) h) ?_))))))
 refine CT.loop (X := Nat) (fun gx => [(10, (i64 gx)), (9, (i64 ls.length)), (8, v8), (3, (.map (some mb))), (2, _), (0, (.slice (some ⟨lb, lo, none⟩) ls.length lc))]) (fun gx => (BkP mb ls gx) :: slc 1 v8 ls.length ((codes ls).map i64) :: A :: R) (fun gx => gx ≤ ls.length) (fun gx => ls.length - gx) 0 (Nat.zero_le _) (.refl _) (.sl 0 6 rfl) ?_
 rintro k hI1
 refine CT.q (TL.val (n_lss k ls.length (.t m0) (.t m1) rfl rfl) (TL.e (CT.seq (CT.ifd m0 (fun c11 => ?_) (fun c11 => ?_)))))
 ·
  refine CT.sub .t1 (CT.skip (EX.seq (CT.seq (CT.block (CT.seq ?_)))))
  obtain ⟨x1, hx1⟩ : ∃ x1, ls[k]? = some x1 := ⟨_, List.getElem?_eq_getElem c11⟩
  have hg : ls.getD k 0 = x1 := by rw [List.getD_eq_getElem?_getD, hx1]; rfl
  have hx15 : x1 ≤ 15 := h15 x1 (List.mem_of_getElem? hx1)
  refine CT.peek m1 (by omega) ?_
  intro pa pa_c pa_v pa_k pa_l
  refine CT.region (TL.m m0 (TL.val (r_ia (i := k) (off' := k) Tryz.underlying42 Tryz.sizeOf3 (.te m3 pa_v) (.t m1) rfl (by omega) (by omega)) (TL.val (r_lds (u := (i64 (cpart ls 16 0 k))) Tryz.isAgg3 m1 pa_v (.t m0) (codes_at c11)) (TL.a m2 (TL.a m1 (TL.sub (.hd (.hd .t3)) (TL.q (TL.m m7 (TL.m m2 (TL.val (r_ia (i := k) (off' := lo + k) Tryz.underlying42 Tryz.sizeOf3 (.t m1) (.t m0) rfl (by omega) (by omega)) (TL.val (r_ldc (v := (i64 x1)) Tryz.isAgg3 (.t m0) (fun w hS => hR (by first | exact .head _ | exact .tail _ (.head _) | exact .tail _ (.tail _ (.head _))) hS _ _ hx1)) (TL.val (n_gtr x1 0 (.t m0) .c rfl rfl) (TL.sub (.hd .t4) (TL.e (CT.ifd m0 (fun c19 => ?_) (fun c19 => ?_))))))))))))))))
  ·
   refine CT.sub .t1 ?_
   have hok : LOk ls k := ⟨c11, by rw [hg]; omega, by rw [hg]; omega⟩
   have hcl := hf k hok
   have hcp := cpart_ok hok
   have hpw : 2 ^ x1 ≤ 2 ^ 15 := Nat.pow_le_pow_right (by decide) hx15
   rw [hg] at hcl
   refine CT.bkp ?_
   intro fm sz hb hsz
   exact CT.region (TL.m m5 (TL.m m8 (TL.m m3 (TL.val (r_ia (i := k) (off' := lo + k) Tryz.underlying42 Tryz.sizeOf3 (.t m1) (.t m0) rfl (by omega) (by omega)) (TL.val (r_ldc (v := (i64 x1)) Tryz.isAgg3 (.t m0) (fun w hS => hR (by first | exact .head _ | exact .tail _ (.head _) | exact .tail _ (.tail _ (.head _))) hS _ _ hx1)) (TL.val (n_shl 1 x1 9223372036854775808 .c (.t m0) rfl rfl (show _ ≤ 64 by omega) (by omega)) (TL.m m6 (TL.val (n_or ((1 * 2 ^ x1)) ((cpart ls 16 0 k)) 9223372036854775808 (.t m1) (.t m0) rfl rfl (by omega) (by omega)) (TL.m m9 (TL.s (r_mapUpdate Tryz.underlying132 Tryz.underlying3 (.t m8) (.t m1) (.t m0)) (TL.conv (fun _ h => bkP_put hf hok hb hsz hx1 (by rw [hcp, Nat.one_mul]; exact ckey_or hf hok hg) h) (TL.sub .t9 (TL.nil (EX.bnormal (EX.seq (CT.region (TL.val (n_add k 1 9223372036854775808 (.t m2) .c rfl rfl (by omega)) (TL.rm .h3 (TL.m m0 (TL.sub (.hd .t1) (TL.nil (EX.again (k + 1) (by omega) (by omega) (.refl _) (.eq m0 (by first | rfl | (congr 1 <;> omega)) (.sl 3 5 rfl))))))))))))))))))))))))
  refine CT.sub .t1 (CT.skip (EX.bnormal (EX.seq (CT.region (TL.val (n_add k 1 9223372036854775808 (.t m2) .c rfl rfl (by omega)) (TL.rm .h3 (TL.m m0 (TL.sub (.hd .t1) (TL.nil (EX.conv (fun _ h => bkP_skip hx1 c19 h) ?_))))))))))
  exact EX.again (k + 1) (by omega) (by omega) (.refl _) (.eq m0 (by first | rfl | (congr 1 <;> omega)) (.sl 3 5 rfl))
 exact CT.sub .t1 (CT.exit (EX.then_exit (EX.then_exit (EX.out (EX.q (TL.m m3 (TL.rm .h5 (TL.a m0 (TL.sub (.hd .t1) (TL.e (CT.ret (EX.perm p2 (EX.perm p1 (EX.end_ (.inl rfl) (res1 Tryz.results92 m0) (fun _ hS => ⟨mb, rfl, keep2 (by obtain rfl : k = ls.length := (by omega); exact hS)⟩)))))))))))))))
end Go.Eng
namespace Go.Eng
open Go Go.Proofs Go.Infl
def DRd (DA : HProp) (dv : Value) (dd : List Nat) : Prop := (dv = .slice none 0 0 ∧ dd = []) ∨ ∃ b off c, dv = .slice (some ⟨b, off, none⟩) dd.length c ∧ ∀ {G w : World} {L : List HProp}, DA ∈ L → Sat G w L → ∀ j x, dd[j]? = some x → w.cell? ⟨b, off + j, none⟩ = some (u8 x)
theorem DRd.shape {DA : HProp} {dv : Value} {dd : List Nat} (h : DRd DA dv dd) : ∃ p c, dv = .slice p dd.length c := by
 rcases h with ⟨rfl, rfl⟩ | ⟨b, off, c, rfl, _⟩
 ·
  exact ⟨none, 0, rfl⟩
 exact ⟨_, _, rfl⟩
theorem DRd.at_ {DA : HProp} {dv : Value} {dd : List Nat} (h : DRd DA dv dd) (h0 : 0 < dd.length) : ∃ b off c, dv = .slice (some ⟨b, off, none⟩) dd.length c ∧ ∀ {G w : World} {L : List HProp}, DA ∈ L → Sat G w L → ∀ j x, dd[j]? = some x → w.cell? ⟨b, off + j, none⟩ = some (u8 x) := by
 rcases h with ⟨rfl, rfl⟩ | ⟨b, off, c, rfl, h⟩
 ·
  cases h0
 exact ⟨b, off, c, rfl, h⟩
theorem xsM_next {h : List Nat} {d j x : Nat} (hx : (copyM h d j)[h.length + j - d]? = some x) : xsM h d (j + 1) = xsM h d j ++ [x] := by
 unfold xsM
 rw [copyM, List.drop_append_of_le_length (by rw [copyM_length]; omega), copyM_length, List.getD_eq_getElem?_getD, hx]; rfl
theorem far_own {dd out xs : List Nat} {d j x : Nat} (hx : (dd ++ (out ++ xs))[dd.length + out.length + j - d]? = some x) (h1 : d ≤ out.length + j) : (out ++ xs)[out.length + j - d]? = some x := by
 rw [List.getElem?_append_right (by omega)] at hx
 rwa [show dd.length + out.length + j - d - dd.length = out.length + j - d by omega] at hx
theorem far_dict {dd out xs : List Nat} {d j x : Nat} (hx : (dd ++ (out ++ xs))[dd.length + out.length + j - d]? = some x) (h1 : out.length + j < d) (h2 : d ≤ dd.length + out.length) : dd[dd.length + (out.length + j) - d]? = some x := by
 rw [List.getElem?_append_left (by omega)] at hx
 rwa [show dd.length + out.length + j - d = dd.length + (out.length + j) - d by omega] at hx
theorem t97 {p at_ dc n d : Nat} {sv : Value} {dp : Option Addr} {B : List Bool} {out dd : List Nat} {DA : HProp} (hDR : DRd DA (.slice dp dd.length dc) dd) (hd : 1 ≤ d) (hdl : d ≤ dd.length + out.length) (hd2 : d ≤ 32768) (ho : out.length + n ≤ 131072) (hn : n ≤ 258) (hdd : dd.length ≤ 32768) {G : World} {R : List HProp} {w : World} (hS : Sat G w ((Sp p sv (B) at_ (.slice dp dd.length dc) out ((-1))) :: DA :: R)) :
 CallsR Tryz.prog 97 #[(.pointer (some ⟨p, 0, none⟩)), (i64 n), (i64 d)] w (fun v w' => v = .tuple #[] ∧ Sat G w' (Sp p sv B at_ (.slice dp dd.length dc) (out ++ xsM (dd ++ out) d n) (-1) :: DA :: R)) := by
 refine calls_in (n := 69) [(0, (.pointer (some ⟨p, 0, none⟩))), (1, (i64 n)), (2, (i64 d))] Tryz.func97 rfl rfl hS args3 ?_
 refine CT.seq (CT.q (TL.m m0 (TL.call (r_call ce_47 (.cons (.t m0) .nil)) (fun w hS => t47 (r := true) (by decide) hS) ?_)))
 rintro _ w8 ⟨rfl, hS⟩
 refine TW.at hS ?_
 refine TL.val (r_nott (.t m0)) (TL.sub (.hd .t2) (TL.e (CT.iff_ m0 ?_)))
 refine CT.sub .t1 (CT.skip (EX.seq (CT.seq (CT.seq (CT.sp ?_)))))
 intro ov1
 refine CT.still fm (by kernel_rfl) ?_
 refine TS.val (r_move (.t m2)) ?_
 refine TS.val (n_gtr d 32768 (.t m0) .c rfl rfl) ?_
 refine TS.val (r_move (.t m0)) ?_
 by_cases g12 : 32768 < d
 ·
  exfalso; omega
 refine TS.sub (ρ' := [(12, (.bool false)), (11, (.bool false)), (10, (i64 d)), (0, (.pointer (some ⟨p, 0, none⟩))), (1, (i64 n)), (2, (i64 d))]) (.eq m0 (congrArg Value.bool (decide_eq_false g12)) (.eq m1 (congrArg Value.bool (decide_eq_false g12)) (.sl 2 4 rfl))) ?_
 refine TS.gv m0 (r_move (.t m5)) ?_
 refine TS.gv m1 (r_move (.t m4)) ?_
 refine TS.gv m2 (r_nil (.t m0)) ?_
 refine TS.gv m3 (r_fa (off' := 2) fo_56_2 (.t m0)) ?_
 refine TS.gv m4 (r_ld (v := (.slice dp dd.length dc)) Tryz.isAgg22 m0 (.t m0) (by decide) rfl) ?_
 refine TS.gv m5 (r_len Tryz.underlying22 (.t m0)) ?_
 refine TS.gv m6 (r_move (.t m9)) ?_
 refine TS.gv m7 (r_nil (.t m0)) ?_
 refine TS.gv m8 (r_fa (off' := 3) fo_56_3 (.t m0)) ?_
 refine TS.gv m9 (r_ld (v := ov1) Tryz.isAgg22 m0 (.t m0) (by decide) rfl) ?_
 refine TS.gv m10 (r_lens Tryz.underlying22 (.t m0) m2) ?_
 refine TS.gv m11 (n_add dd.length ((out).length) 9223372036854775808 (.t m5) (.t m0) rfl rfl (by omega)) ?_
 refine TS.gv m12 (n_gtr d ((dd.length + (out).length)) (.t m11) (.t m0) rfl rfl) ?_
 refine TS.val (r_pickf (.t m13) (.t m0)) ?_
 refine TS.nil ?_
 refine TL.sub (.hd .t16) (TL.e (CT.ifd m0 (fun c26 => ?_) (fun c26 => ?_)))
 ·
  exfalso; omega
 refine CT.sub .t1 (CT.skip (EX.q (TL.m m1 (TL.val (r_move .c) (TL.sub (.hd (.hd (.hd .t1))) (TL.e (CT.block (CT.perm p2 (CT.perm p2 (CT.perm p2 (CT.unsp ?_)))))))))))
 refine CT.fold (A' := (Sp p sv (B) at_ (.slice dp dd.length dc) (out ++ xsM (dd ++ out) d 0) ((-1)))) a0 (Sp_eq rfl (by rw [show xsM (dd ++ out) d 0 = [] from List.length_eq_zero_iff.1 (xsM_length _ _ _), List.append_nil])) (CT.loop (X := Nat) (fun gx => [(30, (i64 gx)), (29, (i64 n)), (0, (.pointer (some ⟨p, 0, none⟩))), (2, (i64 d))]) (fun gx => (Sp p sv (B) at_ (.slice dp dd.length dc) (out ++ xsM (dd ++ out) d gx) ((-1))) :: DA :: R) (fun gx => gx ≤ n) (fun gx => n - gx) 0 (Nat.zero_le _) (.refl _) (.sl 0 4 rfl) ?_)
 rintro j hI1
 refine CT.q (TL.val (n_lss j n (.t m0) (.t m1) rfl rfl) (TL.e (CT.seq (CT.ifd m0 (fun c31 => ?_) (fun c31 => ?_)))))
 ·
  have hxl := xsM_length (dd ++ out) d j
  have hol : (out ++ xsM (dd ++ out) d j).length = out.length + j := by rw [List.length_append, hxl]
  obtain ⟨x1, hx1⟩ : ∃ x1, (copyM (dd ++ out) d j)[(dd ++ out).length + j - d]? = some x1 := ⟨_, List.getElem?_eq_getElem (by rw [copyM_length, List.length_append]; omega)⟩
  have hsu := xsM_next hx1
  rw [copyM_split, List.length_append, List.append_assoc] at hx1
  refine CT.sub .t1 (CT.skip (EX.seq (CT.seq (CT.block (CT.seq (CT.sp ?_))))))
  intro ov2
  refine CT.region (TL.m m2 (TL.c m0 (TL.f 3 fo_56_3 m0 (TL.val (r_ld (v := ov2) Tryz.isAgg22 m0 (.t m0) (by decide) rfl) (TL.val (r_lens Tryz.underlying22 (.t m0) m2) (TL.m m8 (TL.val (r_sub (z := (((out.length + j : Nat) : Int) - (d : Int))) (.t m1) (.t m0) (wi (by rw [hol]; omega))) (TL.a m0 (TL.sub (.hd .t7) (TL.e (CT.seq (CT.q (TL.m m0 (TL.val (r_geq (.t m0) .c) (TL.sub (.hd .t1) (TL.e (CT.ifd m0 (fun c40 => ?_) (fun c40 => ?_))))))))))))))))))
  ·
   refine CT.sub .t1 (CT.peek m2 (by rw [hol]; omega) ?_)
   intro ob ob_c ob_v ob_k ob_l
   refine CT.region (TL.m m3 (TL.m m4 (TL.c m0 (TL.f 3 fo_56_3 m0 (TL.val (r_ld (v := ov2) Tryz.isAgg22 m0 (.t m0) (by decide) rfl) (TL.m m5 (TL.val (r_ia (i := out.length + j - d) (off' := out.length + j - d) Tryz.underlying22 Tryz.sizeOf5 (.te m1 ob_v) (.t m0) ((by omega)) (by rw [hol]; omega) (by omega)) (TL.val (r_lds (u := (u8 x1)) Tryz.isAgg5 m2 ob_v (.t m0) (by rw [List.getElem?_map, far_own hx1 (by omega)]; rfl)) ?_))))))))
   refine TL.perm p2 (TL.perm p2 (TL.perm p2 (TL.unsp ?_)))
   refine TL.call (r_call ce_91 (.cons (.t m7) (.cons (.t m0) .nil))) (fun w hS => t91 x1 (by rw [hol]; omega) hS) ?_
   rintro _ w49 ⟨rfl, hS⟩
   refine TW.at hS ?_
   refine TL.sub .t9 (TL.q (TL.m m3 (TL.call (r_call ce_47 (.cons (.t m0) .nil)) (fun w hS => t47 (r := true) (by decide) hS) ?_)))
   rintro _ w66 ⟨rfl, hS⟩
   refine TW.at hS ?_
   refine TL.val (r_nott (.t m0)) (TL.sub (.hd .t2) (TL.e (CT.iff_ m0 ?_)))
   exact CT.sub .t1 (CT.skip (EX.bnormal (EX.seq (CT.region (TL.val (n_add j 1 9223372036854775808 (.t m1) .c rfl rfl (by omega)) (TL.rm .h2 (TL.m m0 (TL.sub (.hd .t1) (TL.nil (EX.fold (A' := (Sp p sv (B) at_ (.slice dp dd.length dc) (out ++ xsM (dd ++ out) d (j + 1)) ((-1)))) a0 (Sp_eq rfl (by rw [List.append_assoc, ← hsu])) (EX.again (j + 1) (by omega) (by omega) (.refl _) (.eq m0 (by first | rfl | (congr 1 <;> omega)) (.sl 2 3 rfl)))))))))))))
  refine CT.sub .t1 ?_
  obtain ⟨db, doff, dc2, hdv, hdr⟩ := hDR.at_ (by omega)
  refine CT.draw 14 fm (by kernel_rfl) ?_
  refine TS.val (r_move (.t m3)) ?_
  refine TS.val (r_move (.t m4)) ?_
  refine TS.val (r_nil (.t m0)) ?_
  refine TS.val (r_fa (off' := 2) fo_56_2 (.t m0)) ?_
  refine TS.val (r_ld (v := (.slice dp dd.length dc)) Tryz.isAgg22 m0 (.t m0) (by decide) rfl) ?_
  refine TS.sub (ρ' := [(54, (.slice (some ⟨db, doff, none⟩) dd.length dc2)), (53, (.pointer (some ⟨p, 2, none⟩))), (52, (.pointer (some ⟨p, 0, none⟩))), (51, (.pointer (some ⟨p, 0, none⟩))), (50, (.pointer (some ⟨p, 0, none⟩))), (6, (.int .i64 (((out.length + j : Nat) : Int) - (d : Int)))), (30, (i64 j)), (29, (i64 n)), (0, (.pointer (some ⟨p, 0, none⟩))), (2, (i64 d))]) (.eq m0 hdv (.sl 1 9 rfl)) ?_
  refine TS.val (r_move (.t m8)) ?_
  refine TS.val (r_nil (.t m0)) ?_
  refine TS.val (r_fa (off' := 2) fo_56_2 (.t m0)) ?_
  refine TS.val (r_ld (v := (.slice dp dd.length dc)) Tryz.isAgg22 m0 (.t m0) (by decide) rfl) ?_
  refine TS.val (r_len Tryz.underlying22 (.t m0)) ?_
  refine TS.val (r_move (.t m10)) ?_
  refine TS.val (r_add (z := (((dd.length + (out.length + j) - d) : Nat) : Int)) (.t m1) (.t m0) (wi (by omega))) ?_
  refine TS.val (r_ia (i := (dd.length + (out.length + j) - d)) (off' := doff + (dd.length + (out.length + j) - d)) Tryz.underlying22 Tryz.sizeOf5 (.t m7) (.t m0) rfl (by omega) (by omega)) ?_
  refine TS.val (r_ldc (v := (u8 x1)) Tryz.isAgg5 (.t m0) (fun w hS => hdr (by first | exact .head _ | exact .tail _ (.head _) | exact .tail _ (.tail _ (.head _)) | exact .tail _ (.tail _ (.tail _ (.head _)))) hS _ _ (far_dict hx1 (by omega) (by omega)))) ?_
  refine TS.nil ?_
  refine TL.perm p2 (TL.perm p2 (TL.perm p2 (TL.unsp ?_)))
  refine TL.call (r_call ce_91 (.cons (.t m13) (.cons (.t m0) .nil))) (fun w hS => t91 x1 (by rw [hol]; omega) hS) ?_
  rintro _ w64 ⟨rfl, hS⟩
  refine TW.at hS ?_
  refine TL.sub .t15 (TL.q (TL.m m3 (TL.call (r_call ce_47 (.cons (.t m0) .nil)) (fun w hS => t47 (r := true) (by decide) hS) ?_)))
  rintro _ w66 ⟨rfl, hS⟩
  refine TW.at hS ?_
  refine TL.val (r_nott (.t m0)) (TL.sub (.hd .t2) (TL.e (CT.iff_ m0 ?_)))
  exact CT.sub .t1 (CT.skip (EX.bnormal (EX.seq (CT.region (TL.val (n_add j 1 9223372036854775808 (.t m1) .c rfl rfl (by omega)) (TL.rm .h2 (TL.m m0 (TL.sub (.hd .t1) (TL.nil (EX.fold (A' := (Sp p sv (B) at_ (.slice dp dd.length dc) (out ++ xsM (dd ++ out) d (j + 1)) ((-1)))) a0 (Sp_eq rfl (by rw [List.append_assoc, ← hsu])) (EX.again (j + 1) (by omega) (by omega) (.refl _) (.eq m0 (by first | rfl | (congr 1 <;> omega)) (.sl 2 3 rfl)))))))))))))
 exact CT.sub .t1 (CT.exit (EX.then_exit (EX.then_exit (EX.out (EX.perm p1 (EX.perm p1 (EX.end_ (.inr rfl) (res0 Tryz.results97) (fun _ hS => ⟨rfl, by obtain rfl : j = n := (by omega); exact hS⟩))))))))
theorem t97_b {p at_ dc n d : Nat} {sv : Value} {dp : Option Addr} {B : List Bool} {out dd : List Nat} {DA : HProp} (hDR : DRd DA (.slice dp dd.length dc) dd) (hd2 : d ≤ 32768) (hbad : dd.length + out.length < d) (ho : out.length ≤ 131072) (hdd : dd.length ≤ 32768) {G : World} {R : List HProp} {w : World} (hS : Sat G w ((Sp p sv (B) at_ (.slice dp dd.length dc) out ((-1))) :: DA :: R)) :
 CallsR Tryz.prog 97 #[(.pointer (some ⟨p, 0, none⟩)), (i64 n), (i64 d)] w (fun v w' => v = .tuple #[] ∧ Sat G w' (Sp p sv B at_ (.slice dp dd.length dc) out 2 :: DA :: R)) := by
 refine calls_in (n := 69) [(0, (.pointer (some ⟨p, 0, none⟩))), (1, (i64 n)), (2, (i64 d))] Tryz.func97 rfl rfl hS args3 ?_
 refine CT.seq (CT.q (TL.m m0 (TL.call (r_call ce_47 (.cons (.t m0) .nil)) (fun w hS => t47 (r := true) (by decide) hS) ?_)))
 rintro _ w8 ⟨rfl, hS⟩
 refine TW.at hS ?_
 refine TL.val (r_nott (.t m0)) (TL.sub (.hd .t2) (TL.e (CT.iff_ m0 ?_)))
 refine CT.sub .t1 (CT.skip (EX.seq (CT.seq (CT.seq (CT.sp ?_)))))
 intro ov1
 refine CT.still fm (by kernel_rfl) ?_
 refine TS.val (r_move (.t m2)) ?_
 refine TS.val (n_gtr d 32768 (.t m0) .c rfl rfl) ?_
 refine TS.val (r_move (.t m0)) ?_
 by_cases g12 : 32768 < d
 ·
  exfalso; omega
 refine TS.sub (ρ' := [(12, (.bool false)), (11, (.bool false)), (10, (i64 d)), (0, (.pointer (some ⟨p, 0, none⟩))), (1, (i64 n)), (2, (i64 d))]) (.eq m0 (congrArg Value.bool (decide_eq_false g12)) (.eq m1 (congrArg Value.bool (decide_eq_false g12)) (.sl 2 4 rfl))) ?_
 refine TS.gv m0 (r_move (.t m5)) ?_
 refine TS.gv m1 (r_move (.t m4)) ?_
 refine TS.gv m2 (r_nil (.t m0)) ?_
 refine TS.gv m3 (r_fa (off' := 2) fo_56_2 (.t m0)) ?_
 refine TS.gv m4 (r_ld (v := (.slice dp dd.length dc)) Tryz.isAgg22 m0 (.t m0) (by decide) rfl) ?_
 refine TS.gv m5 (r_len Tryz.underlying22 (.t m0)) ?_
 refine TS.gv m6 (r_move (.t m9)) ?_
 refine TS.gv m7 (r_nil (.t m0)) ?_
 refine TS.gv m8 (r_fa (off' := 3) fo_56_3 (.t m0)) ?_
 refine TS.gv m9 (r_ld (v := ov1) Tryz.isAgg22 m0 (.t m0) (by decide) rfl) ?_
 refine TS.gv m10 (r_lens Tryz.underlying22 (.t m0) m2) ?_
 refine TS.gv m11 (n_add dd.length ((out).length) 9223372036854775808 (.t m5) (.t m0) rfl rfl (by omega)) ?_
 refine TS.gv m12 (n_gtr d ((dd.length + (out).length)) (.t m11) (.t m0) rfl rfl) ?_
 refine TS.val (r_pickf (.t m13) (.t m0)) ?_
 refine TS.nil ?_
 refine TL.sub (.hd .t16) (TL.e (CT.ifd m0 (fun c26 => ?_) (fun c26 => ?_)))
 ·
  refine CT.sub .t1 (CT.q (TL.m m0 (TL.perm p2 (TL.perm p2 (TL.perm p2 (TL.unsp ?_))))))
  refine TL.call (r_call ce_49 (.cons (.t m0) (.cons .c .nil))) (fun w hS => t49_1 hS) ?_
  rintro _ w28 ⟨rfl, hS⟩
  refine TW.at hS ?_
  exact TL.sub .t2 (TL.e (CT.ret (EX.then_ret (EX.perm p1 (EX.perm p1 (EX.end_ (.inl rfl) (res0 Tryz.results97) (fun _ hS => ⟨rfl, hS⟩)))))))
 exfalso; omega
end Go.Eng
namespace Go.Infl
theorem After.len {fin : Bool} {pos : Nat} {rest : List Bool} {h : List Nat} {hF : List Nat × Bool} (H : After fin pos rest h hF) : h.length ≤ hF.1.length := by
 cases fin with
 | true => rw [(H.1 rfl).1]; exact Nat.le_refl _
 | false =>
  obtain ⟨st, tail, _, e⟩ := H.2 rfl
  exact e.len
theorem HTail.len {ls ds : List Nat} {fin : Bool} {k : Nat} {bits : List Bool} {h : List Nat} {hF : List Nat × Bool} (H : HTail ls ds fin k bits h hF) : h.length ≤ hF.1.length := by
 obtain ⟨its, b1, tl, _, _, _, h3⟩ := H
 have h0 := gives_le h its
 rcases h3 with ⟨rest, _, h3⟩ | ⟨h3, _⟩
 ·
  exact Nat.le_trans h0 h3.len
 rw [h3]; exact h0
theorem nx_cons (l : Nat) (ls : List Nat) : ∀ n, nx (l :: ls) n = nx ls n + (if 1 ≤ l ∧ l < n then 2 ^ (n - 1 - l) else 0)
 | 0 => by simp [nx]
 | n + 1 => by
  rw [nx, nx, nx_cons l ls n, List.count_cons]
  by_cases h0 : n = 0
  ·
   subst h0
   rw [if_pos rfl, if_pos rfl, if_neg (by omega), if_neg (by omega)]; omega
  rw [if_neg h0, if_neg h0]
  by_cases h1 : 1 ≤ l ∧ l < n
  ·
   rw [if_pos h1, if_pos (show 1 ≤ l ∧ l < n + 1 by omega), if_neg (show ¬ (l == n) = true by simp; omega), show n + 1 - 1 - l = (n - 1 - l) + 1 by omega, Nat.pow_succ]
   omega
  rw [if_neg h1]
  by_cases h2 : l = n
  ·
   subst h2; rw [if_pos (show (l == l) = true by simp), if_pos (show 1 ≤ l ∧ l < l + 1 by omega), show l + 1 - 1 - l = 0 by omega]; omega
  rw [if_neg (show ¬ (l == n) = true by simp; omega), if_neg (show ¬ (1 ≤ l ∧ l < n + 1) by omega)]; omega
def kraft : List Nat → Nat
 | [] => 0
 | l :: ls => (if l = 0 then 0 else 2 ^ (15 - l)) + kraft ls
theorem nx_nil : ∀ n, nx [] n = 0
 | 0 => rfl
 | n + 1 => by rw [nx, nx_nil n]; simp
theorem kraft_nx : ∀ {ls : List Nat}, (∀ x ∈ ls, x ≤ 15) → nx ls 16 = kraft ls
 | [], _ => nx_nil 16
 | l :: ls, h => by
  rw [nx_cons, kraft, kraft_nx (ls := ls) (fun x hx => h x (List.mem_cons_of_mem _ hx))]
  have := h l (List.mem_cons_self ..)
  by_cases h0 : l = 0
  ·
   rw [if_neg (by omega), if_pos h0]; omega
  rw [if_pos (by omega), if_neg h0, show 16 - 1 - l = 15 - l by omega]; omega
theorem kraft_append : ∀ (a b : List Nat), kraft (a ++ b) = kraft a + kraft b
 | [], b => by simp [kraft]
 | l :: a, b => by rw [List.cons_append, kraft, kraft, kraft_append a b]; omega
theorem kraft_succ {ls : List Nat} {k x : Nat} (h : ls[k]? = some x) : kraft (ls.take (k + 1)) = kraft (ls.take k) + (if x = 0 then 0 else 2 ^ (15 - x)) := by
 rw [List.take_add_one, h, kraft_append]; simp [kraft]
theorem kraft_le : ∀ (ls : List Nat), kraft ls ≤ 32768 * ls.length
 | [] => Nat.le_refl _
 | l :: ls => by
  have := kraft_le ls
  have h2 : 2 ^ (15 - l) ≤ 2 ^ 15 := Nat.pow_le_pow_right (by decide) (by omega)
  rw [kraft, List.length_cons]
  split <;> omega
theorem Full.kraft {ls : List Nat} (h : Full ls) (h15 : ∀ x ∈ ls, x ≤ 15) : kraft ls = 32768 := by rw [← kraft_nx h15]; exact h
theorem Over.kraft {ls : List Nat} (h : Over ls) (h15 : ∀ x ∈ ls, x ≤ 15) : 32768 < kraft ls := by rw [← kraft_nx h15]; exact h
end Go.Infl
namespace Go.Eng
open Go Go.Proofs Go.Infl
theorem cpart_lt {ls : List Nat} {k : Nat} (hl : ls.length ≤ 1024) : cpart ls 16 0 k < 268435456 := by
 unfold cpart
 split
 ·
  rename_i h
  have := nx_lt (ls := ls) (n := ls.getD k 0) (by omega) hl
  have h2 : (ls.take k).count (ls.getD k 0) ≤ 1024 := Nat.le_trans List.count_le_length (by rw [List.length_take]; omega)
  unfold codeOf
  omega
 decide
theorem usedN_le (ls : List Nat) (k : Nat) : usedN ls k ≤ k := by
 unfold usedN
 exact Nat.le_trans List.countP_le_length (by rw [List.length_take]; omega)
theorem usedN_mono {ls : List Nat} {j k : Nat} (h : j ≤ k) : usedN ls j ≤ usedN ls k := by
 unfold usedN
 rw [show ls.take j = (ls.take k).take j by rw [List.take_take, Nat.min_eq_left h]]
 exact List.Sublist.countP_le (List.take_sublist _ _)
theorem usedN_pos {ls : List Nat} {i : Nat} (h : LOk ls i) : usedN ls i < usedN ls ls.length := by
 have h1 := usedN_succ (lens_get h)
 rw [if_pos h.2] at h1
 have := usedN_mono (ls := ls) (j := i + 1) (k := ls.length) h.1
 omega
theorem usedN_two {ls : List Nat} (h : Full ls) : 2 ≤ usedN ls ls.length := by
 obtain ⟨i, j, hij, hi, hj⟩ := h.used
 have h1 := usedN_succ (lens_get hi)
 rw [if_pos hi.2] at h1
 have h2 := usedN_mono (ls := ls) (j := i + 1) (k := j) hij
 have h3 := usedN_pos hj
 omega
theorem usedN_zero {ls : List Nat} (h : ∀ x ∈ ls, x = 0) (k : Nat) : usedN ls k = 0 := by
 unfold usedN
 rw [List.countP_eq_zero]
 intro x hx
 have := h x (List.mem_of_mem_take hx)
 subst this; decide
theorem t94_z (k : Nat) (h1 : 286 ≤ k) {G : World} {R : List HProp} {w : World} (hS : Sat G w (R)) :
 CallsR Tryz.prog 94 #[(i64 k)] w (fun v w' => v = .tuple #[i64 0, i64 0] ∧ Sat G w' R) := by
 refine calls_in (n := 35) [(0, (i64 k))] Tryz.func94 rfl rfl hS args1 ?_
 refine CT.q (TL.val (r_asg .c) (TL.val (r_asg .c) (TL.e (CT.seq (CT.block (CT.q (TL.m m2 (TL.val (n_eql k 285 (.t m0) .c rfl rfl) (TL.a m0 (TL.sub (.hd .t2) (TL.e (CT.ifd m0 (fun c5 => ?_) (fun c5 => ?_)))))))))))))
 ·
  exfalso; omega
 refine CT.sub .t1 (CT.q (TL.m m2 (TL.val (n_geq k 257 (.t m0) .c rfl rfl) (TL.m m0 ?_))))
 by_cases g11 : 257 ≤ k
 ·
  refine TL.sub (.eq m0 (congrArg Value.bool (decide_eq_true g11)) (.eq m1 (congrArg Value.bool (decide_eq_true g11)) (.cons m2 (.cons m3 (.cons m4 (.cons m5 .nil)))))) (TL.gv m0 (r_move (.t m5)) (TL.gv m1 (n_leq k 264 (.t m0) .c rfl rfl) (TL.val (r_pickt (.t m2) (.t m0)) (TL.a m0 (TL.sub (.hd .t6) (TL.e (CT.ifd m0 (fun c8 => ?_) (fun c8 => ?_))))))))
  ·
   exfalso; omega
  refine CT.sub .t1 (CT.q (TL.m m2 (TL.val (n_geq k 265 (.t m0) .c rfl rfl) (TL.m m0 ?_))))
  by_cases g20 : 265 ≤ k
  ·
   refine TL.sub (.eq m0 (congrArg Value.bool (decide_eq_true g20)) (.eq m1 (congrArg Value.bool (decide_eq_true g20)) (.cons m2 (.cons m3 (.cons m4 (.cons m5 .nil)))))) (TL.gv m0 (r_move (.t m5)) (TL.gv m1 (n_leq k 284 (.t m0) .c rfl rfl) (TL.val (r_pickt (.t m2) (.t m0)) (TL.a m0 (TL.sub (.hd .t6) (TL.e (CT.ifd m0 (fun c17 => ?_) (fun c17 => ?_))))))))
   ·
    exfalso; omega
   exact CT.sub .t1 (CT.skip (EX.bnormal (EX.q (TL.rm .h1 (TL.val (r_asg .c) (TL.rm .h1 (TL.val (r_asg .c) (TL.e (CT.ret (EX.end_ (.inl rfl) (res2 Tryz.results94 m1 m0) (fun _ hS => ⟨rfl, hS⟩)))))))))))
  exfalso; omega
 exfalso; omega
theorem t96_z (k : Nat) (h1 : 30 ≤ k) {G : World} {R : List HProp} {w : World} (hS : Sat G w (R)) :
 CallsR Tryz.prog 96 #[(i64 k)] w (fun v w' => v = .tuple #[i64 0, i64 0] ∧ Sat G w' R) := by
 refine calls_in (n := 31) [(0, (i64 k))] Tryz.func96 rfl rfl hS args1 ?_
 refine CT.q (TL.val (r_asg .c) (TL.val (r_asg .c) (TL.e (CT.seq (CT.block (CT.q (TL.m m2 (TL.val (n_geq k 0 (.t m0) .c rfl rfl) (TL.m m0 ?_)))))))))
 by_cases g8 : 0 ≤ k
 ·
  refine TL.sub (.eq m0 (congrArg Value.bool (decide_eq_true g8)) (.eq m1 (congrArg Value.bool (decide_eq_true g8)) (.cons m2 (.cons m3 (.cons m4 (.cons m5 .nil)))))) (TL.gv m0 (r_move (.t m5)) (TL.gv m1 (n_leq k 3 (.t m0) .c rfl rfl) (TL.val (r_pickt (.t m2) (.t m0)) (TL.a m0 (TL.sub (.hd .t6) (TL.e (CT.ifd m0 (fun c5 => ?_) (fun c5 => ?_))))))))
  ·
   exfalso; omega
  refine CT.sub .t1 (CT.q (TL.m m2 (TL.val (n_geq k 4 (.t m0) .c rfl rfl) (TL.m m0 ?_))))
  by_cases g17 : 4 ≤ k
  ·
   refine TL.sub (.eq m0 (congrArg Value.bool (decide_eq_true g17)) (.eq m1 (congrArg Value.bool (decide_eq_true g17)) (.cons m2 (.cons m3 (.cons m4 (.cons m5 .nil)))))) (TL.gv m0 (r_move (.t m5)) (TL.gv m1 (n_leq k 29 (.t m0) .c rfl rfl) (TL.val (r_pickt (.t m2) (.t m0)) (TL.a m0 (TL.sub (.hd .t6) (TL.e (CT.ifd m0 (fun c14 => ?_) (fun c14 => ?_))))))))
   ·
    exfalso; omega
   exact CT.sub .t1 (CT.skip (EX.bnormal (EX.q (TL.rm .h1 (TL.val (r_asg .c) (TL.rm .h1 (TL.val (r_asg .c) (TL.e (CT.ret (EX.end_ (.inl rfl) (res2 Tryz.results96 m1 m0) (fun _ hS => ⟨rfl, hS⟩)))))))))))
  exfalso; omega
 exfalso; omega
theorem t92_o (A : HProp) (ls : List Nat) (lb lo lc : Nat) (hR : ∀ {G w : World} {L : List HProp}, A ∈ L → Sat G w L → ∀ j x, ls[j]? = some x → w.cell? ⟨lb, lo + j, none⟩ = some (i64 x)) (hls : ls.length ≤ 1024) (h15 : ∀ x ∈ ls, x ≤ 15) {G : World} {R : List HProp} {w : World} (hS : Sat G w (A :: R)) :
 CallsR Tryz.prog 92 #[(.slice (some ⟨lb, lo, none⟩) ls.length lc)] w (fun v w' => ∃ mb fm sz, v = .map (some mb) ∧ Sat G w' (imap mb fm sz :: A :: R)) := by
 refine calls_in (n := 31) [(0, (.slice (some ⟨lb, lo, none⟩) ls.length lc))] Tryz.func92 rfl rfl hS args1 ?_
 refine CT.q (TL.val (r_asg .c) (TL.q (TL.w r_makeMap ?_)))
 rintro _ w6 ⟨mb, rfl, hS⟩
 refine TW.at hS ?_
 refine TL.a m0 (TL.sub (.hd .t1) (TL.e (CT.seq (CT.q (TL.m m2 (TL.perm p1 (TL.call (r_call ce_79 (.cons (.t m0) .nil)) (fun w hS => t79 A ls lb lo lc hR hls hS) ?_)))))))
 rintro v8 w8 hS
 refine TW.at hS ?_
 refine TL.val (r_lens Tryz.underlying42 (.t m0) m0) (TL.val (r_move .c) (TL.sub (.hd (.hd (.hd .t1))) (TL.e (CT.block (CT.perm p1 (CT.perm p1 (CT.perm p2 (CT.loop (X := Nat × (Int → Option Int) × Nat) (fun gx => [(10, (i64 gx.1)), (9, (i64 ls.length)), (8, v8), (3, (.map (some mb))), (2, _), (0, (.slice (some ⟨lb, lo, none⟩) ls.length lc))]) (fun gx => (imap mb gx.2.1 gx.2.2) :: slc 1 v8 ls.length ((codes ls).map i64) :: A :: R) (fun gx => gx.1 ≤ ls.length) (fun gx => ls.length - gx.1) ((0, (fun _ => none), 0)) (Nat.zero_le _) (.refl _) (.sl 0 6 rfl) ?_))))))))
 rintro ⟨k, fm, sz⟩ hI1
 replace hI1 : k ≤ ls.length := hI1
 refine CT.q (TL.val (n_lss k ls.length (.t m0) (.t m1) rfl rfl) (TL.e (CT.seq (CT.ifd m0 (fun c11 => ?_) (fun c11 => ?_)))))
 ·
  refine CT.sub .t1 (CT.skip (EX.seq (CT.seq (CT.block (CT.seq ?_)))))
  obtain ⟨x1, hx1⟩ : ∃ x1, ls[k]? = some x1 := ⟨_, List.getElem?_eq_getElem c11⟩
  have hx15 : x1 ≤ 15 := h15 x1 (List.mem_of_getElem? hx1)
  refine CT.peek m1 (by omega) ?_
  intro pa pa_c pa_v pa_k pa_l
  refine CT.region (TL.m m0 (TL.val (r_ia (i := k) (off' := k) Tryz.underlying42 Tryz.sizeOf3 (.te m3 pa_v) (.t m1) rfl (by omega) (by omega)) (TL.val (r_lds (u := (i64 (cpart ls 16 0 k))) Tryz.isAgg3 m1 pa_v (.t m0) (codes_at c11)) (TL.a m2 (TL.a m1 (TL.sub (.hd (.hd .t3)) (TL.q (TL.m m7 (TL.m m2 (TL.val (r_ia (i := k) (off' := lo + k) Tryz.underlying42 Tryz.sizeOf3 (.t m1) (.t m0) rfl (by omega) (by omega)) (TL.val (r_ldc (v := (i64 x1)) Tryz.isAgg3 (.t m0) (fun w hS => hR (by first | exact .head _ | exact .tail _ (.head _) | exact .tail _ (.tail _ (.head _))) hS _ _ hx1)) (TL.val (n_gtr x1 0 (.t m0) .c rfl rfl) (TL.sub (.hd .t4) (TL.e (CT.ifd m0 (fun c19 => ?_) (fun c19 => ?_))))))))))))))))
  ·
   refine CT.sub .t1 ?_
   have hcl : cpart ls 16 0 k < 268435456 := cpart_lt hls
   have hpw : 2 ^ x1 ≤ 2 ^ 15 := Nat.pow_le_pow_right (by decide) hx15
   exact CT.region (TL.m m5 (TL.m m8 (TL.m m3 (TL.val (r_ia (i := k) (off' := lo + k) Tryz.underlying42 Tryz.sizeOf3 (.t m1) (.t m0) rfl (by omega) (by omega)) (TL.val (r_ldc (v := (i64 x1)) Tryz.isAgg3 (.t m0) (fun w hS => hR (by first | exact .head _ | exact .tail _ (.head _) | exact .tail _ (.tail _ (.head _))) hS _ _ hx1)) (TL.val (n_shl 1 x1 9223372036854775808 .c (.t m0) rfl rfl (show _ ≤ 64 by omega) (by omega)) (TL.m m6 (TL.val (n_or ((1 * 2 ^ x1)) ((cpart ls 16 0 k)) 9223372036854775808 (.t m1) (.t m0) rfl rfl (by omega) (by omega)) (TL.m m9 (TL.s (r_mapUpdate Tryz.underlying132 Tryz.underlying3 (.t m8) (.t m1) (.t m0)) (TL.sub .t9 (TL.nil (EX.bnormal (EX.seq (CT.region (TL.val (n_add k 1 9223372036854775808 (.t m2) .c rfl rfl (by omega)) (TL.rm .h3 (TL.m m0 (TL.sub (.hd .t1) (TL.nil (EX.again ((k + 1, fun q => if q = ((((1 * 2 ^ x1) ||| (cpart ls 16 0 k)) : Nat) : Int) then some ((k : Nat) : Int) else fm q, if (fm ((((1 * 2 ^ x1) ||| (cpart ls 16 0 k)) : Nat) : Int)).isSome then sz else sz + 1)) (by show k + 1 ≤ ls.length; omega) (by show ls.length - (k + 1) < ls.length - k; omega) (.refl _) (.eq m0 (by first | rfl | (congr 1 <;> omega)) (.sl 3 5 rfl)))))))))))))))))))))))
  exact CT.sub .t1 (CT.skip (EX.bnormal (EX.seq (CT.region (TL.val (n_add k 1 9223372036854775808 (.t m2) .c rfl rfl (by omega)) (TL.rm .h3 (TL.m m0 (TL.sub (.hd .t1) (TL.nil (EX.again ((k + 1, fm, sz)) (by show k + 1 ≤ ls.length; omega) (by show ls.length - (k + 1) < ls.length - k; omega) (.refl _) (.eq m0 (by first | rfl | (congr 1 <;> omega)) (.sl 3 5 rfl))))))))))))
 exact CT.sub .t1 (CT.exit (EX.then_exit (EX.then_exit (EX.out (EX.q (TL.m m3 (TL.rm .h5 (TL.a m0 (TL.sub (.hd .t1) (TL.e (CT.ret (EX.perm p2 (EX.perm p1 (EX.end_ (.inl rfl) (res1 Tryz.results92 m0) (fun _ hS => ⟨mb, fm, sz, rfl, keep2 hS⟩)))))))))))))))
theorem t62 (A : HProp) (ls : List Nat) (lb lo lc : Nat) (hR : ∀ {G w : World} {L : List HProp}, A ∈ L → Sat G w L → ∀ j x, ls[j]? = some x → w.cell? ⟨lb, lo + j, none⟩ = some (i64 x)) (hls : ls.length ≤ 1024) (h15 : ∀ x ∈ ls, x ≤ 15) {G : World} {R : List HProp} {w : World} (hS : Sat G w (A :: R)) :
 CallsR Tryz.prog 62 #[(.slice (some ⟨lb, lo, none⟩) ls.length lc)] w (fun v w' => v = .int .i64 (32768 - ((kraft ls : Nat) : Int)) ∧ Sat G w' (A :: R)) := by
 refine calls_in (n := 21) [(0, (.slice (some ⟨lb, lo, none⟩) ls.length lc))] Tryz.func62 rfl rfl hS args1 ?_
 refine CT.q (TL.val (r_asg .c) (TL.q (TL.val (r_asg .c) (TL.e (CT.seq (CT.q (TL.m m2 (TL.val (r_len Tryz.underlying42 (.t m0)) (TL.val (r_move .c) (TL.sub (.hd (.hd (.hd (.hd (.hd .t1))))) (TL.e (CT.block (CT.loop (X := Nat) (fun gx => [(8, (i64 gx)), (3, (.int .i64 ((32768 - ((kraft (ls.take gx) : Nat) : Int))))), (7, (i64 ls.length)), (6, (.slice (some ⟨lb, lo, none⟩) ls.length lc)), (2, (.int .i64 0))]) (fun gx => A :: R) (fun gx => gx ≤ ls.length) (fun gx => ls.length - gx) 0 (Nat.zero_le _) (.refl _) (.cons m0 (.eq m3 (by first | rfl | (congr 1 <;> omega)) (.cons m1 (.cons m2 (.cons m4 .nil))))) ?_)))))))))))))
 rintro k hI1
 refine CT.q (TL.val (n_lss k ls.length (.t m0) (.t m2) rfl rfl) (TL.e (CT.seq (CT.ifd m0 (fun c9 => ?_) (fun c9 => ?_)))))
 ·
  refine CT.sub .t1 (CT.skip (EX.seq (CT.seq (CT.block (CT.seq ?_)))))
  obtain ⟨x1, hx1⟩ : ∃ x1, ls[k]? = some x1 := ⟨_, List.getElem?_eq_getElem c9⟩
  have hx15 : x1 ≤ 15 := h15 x1 (List.mem_of_getElem? hx1)
  have hk1 := kraft_succ hx1
  have hkl := kraft_le (ls.take k)
  rw [List.length_take] at hkl
  refine CT.region (TL.val (r_ia (i := k) (off' := lo + k) Tryz.underlying42 Tryz.sizeOf3 (.t m3) (.t m0) rfl (by omega) (by omega)) (TL.val (r_ldc (v := (i64 x1)) Tryz.isAgg3 (.t m0) (fun w hS => hR (by first | exact .head _ | exact .tail _ (.head _) | exact .tail _ (.tail _ (.head _))) hS _ _ hx1)) (TL.a m0 (TL.sub (.hd .t2) (TL.q (TL.m m0 (TL.val (n_gtr x1 0 (.t m0) .c rfl rfl) (TL.sub (.hd .t1) (TL.e (CT.ifd m0 (fun c13 => ?_) (fun c13 => ?_)))))))))))
  ·
   rw [if_neg (show ¬ x1 = 0 by omega)] at hk1
   have hpw : 2 ^ (15 - x1) ≤ 2 ^ 15 := Nat.pow_le_pow_right (by decide) (by omega)
   exact CT.sub .t1 (CT.region (TL.m m2 (TL.m m1 (TL.val (n_sub 15 x1 9223372036854775808 .c (.t m0) rfl rfl (by omega) (by omega)) (TL.val (n_shl 1 ((15 - x1)) 9223372036854775808 .c (.t m0) rfl rfl (show _ ≤ 64 by omega) (by omega)) (TL.val (r_sub (z := ((32768 - ((kraft (ls.take k) : Nat) : Int) - ((2 ^ (15 - x1) : Nat) : Int)))) (.t m3) (.t m0) (wi (by rw [Nat.one_mul]; omega))) (TL.rm .h7 (TL.a m0 (TL.sub (.hd .t5) (TL.nil (EX.bnormal (EX.seq (CT.region (TL.val (n_add k 1 9223372036854775808 (.t m2) .c rfl rfl (by omega)) (TL.rm .h3 (TL.m m0 (TL.sub (.hd .t1) (TL.nil (EX.again (k + 1) (by omega) (by omega) (.refl _) (.eq m0 (by first | rfl | (congr 1 <;> omega)) (.eq m1 (by first | rfl | (congr 1 <;> omega)) (.sl 3 3 rfl))))))))))))))))))))))
  rw [if_pos (show x1 = 0 by omega)] at hk1
  exact CT.sub .t1 (CT.skip (EX.bnormal (EX.seq (CT.region (TL.val (n_add k 1 9223372036854775808 (.t m1) .c rfl rfl (by omega)) (TL.rm .h2 (TL.m m0 (TL.sub (.hd .t1) (TL.nil (EX.again (k + 1) (by omega) (by omega) (.refl _) (.eq m0 (by first | rfl | (congr 1 <;> omega)) (.eq m2 (by first | rfl | (congr 1 <;> omega)) (.sl 3 3 rfl)))))))))))))
 exact CT.sub .t1 (CT.exit (EX.then_exit (EX.then_exit (EX.out (EX.q (TL.m m1 (TL.rm .h5 (TL.a m0 (TL.sub (.hd .t1) (TL.e (CT.ret (EX.end_ (.inl rfl) (res1 Tryz.results62 m0) (fun _ hS => ⟨by obtain rfl : k = ls.length := (by omega); rw [List.take_length], hS⟩)))))))))))))
theorem t95 (A : HProp) (ls : List Nat) (lb lo lc : Nat) (hR : ∀ {G w : World} {L : List HProp}, A ∈ L → Sat G w L → ∀ j x, ls[j]? = some x → w.cell? ⟨lb, lo + j, none⟩ = some (i64 x)) (hls : ls.length ≤ 1024) (h15 : ∀ x ∈ ls, x ≤ 15) {G : World} {R : List HProp} {w : World} (hS : Sat G w (A :: R)) :
 CallsR Tryz.prog 95 #[(.slice (some ⟨lb, lo, none⟩) ls.length lc)] w (fun v w' => v = i64 (usedN ls ls.length) ∧ Sat G w' (A :: R)) := by
 refine calls_in (n := 18) [(0, (.slice (some ⟨lb, lo, none⟩) ls.length lc))] Tryz.func95 rfl rfl hS args1 ?_
 refine CT.q (TL.val (r_asg .c) (TL.q (TL.val (r_asg .c) (TL.e (CT.seq (CT.q (TL.m m2 (TL.val (r_len Tryz.underlying42 (.t m0)) (TL.val (r_move .c) (TL.sub (.hd (.hd (.hd (.hd (.hd .t1))))) (TL.e (CT.block (CT.loop (X := Nat) (fun gx => [(8, (i64 gx)), (3, (i64 (usedN ls gx))), (7, (i64 ls.length)), (6, (.slice (some ⟨lb, lo, none⟩) ls.length lc)), (2, (.int .i64 0))]) (fun gx => A :: R) (fun gx => gx ≤ ls.length) (fun gx => ls.length - gx) 0 (Nat.zero_le _) (.refl _) (.cons m0 (.eq m3 (by first | rfl | (congr 1 <;> omega)) (.cons m1 (.cons m2 (.cons m4 .nil))))) ?_)))))))))))))
 rintro k hI1
 refine CT.q (TL.val (n_lss k ls.length (.t m0) (.t m2) rfl rfl) (TL.e (CT.seq (CT.ifd m0 (fun c9 => ?_) (fun c9 => ?_)))))
 ·
  refine CT.sub .t1 (CT.skip (EX.seq (CT.seq (CT.block (CT.seq ?_)))))
  obtain ⟨x1, hx1⟩ : ∃ x1, ls[k]? = some x1 := ⟨_, List.getElem?_eq_getElem c9⟩
  have hx15 : x1 ≤ 15 := h15 x1 (List.mem_of_getElem? hx1)
  have hk1 := usedN_succ hx1
  have hkl := usedN_le ls k
  refine CT.region (TL.val (r_ia (i := k) (off' := lo + k) Tryz.underlying42 Tryz.sizeOf3 (.t m3) (.t m0) rfl (by omega) (by omega)) (TL.val (r_ldc (v := (i64 x1)) Tryz.isAgg3 (.t m0) (fun w hS => hR (by first | exact .head _ | exact .tail _ (.head _) | exact .tail _ (.tail _ (.head _))) hS _ _ hx1)) (TL.a m0 (TL.sub (.hd .t2) (TL.q (TL.m m0 (TL.val (n_gtr x1 0 (.t m0) .c rfl rfl) (TL.sub (.hd .t1) (TL.e (CT.ifd m0 (fun c13 => ?_) (fun c13 => ?_)))))))))))
  ·
   rw [if_pos (by omega)] at hk1
   exact CT.sub .t1 (CT.region (TL.m m2 (TL.val (n_add ((usedN ls k)) 1 9223372036854775808 (.t m0) .c rfl rfl (by omega)) (TL.rm .h4 (TL.a m0 (TL.sub (.hd .t2) (TL.nil (EX.bnormal (EX.seq (CT.region (TL.val (n_add k 1 9223372036854775808 (.t m2) .c rfl rfl (by omega)) (TL.rm .h3 (TL.m m0 (TL.sub (.hd .t1) (TL.nil (EX.again (k + 1) (by omega) (by omega) (.refl _) (.eq m0 (by first | rfl | (congr 1 <;> omega)) (.eq m1 (by first | rfl | (congr 1 <;> omega)) (.sl 3 3 rfl)))))))))))))))))))
  rw [if_neg (by omega)] at hk1
  exact CT.sub .t1 (CT.skip (EX.bnormal (EX.seq (CT.region (TL.val (n_add k 1 9223372036854775808 (.t m1) .c rfl rfl (by omega)) (TL.rm .h2 (TL.m m0 (TL.sub (.hd .t1) (TL.nil (EX.again (k + 1) (by omega) (by omega) (.refl _) (.eq m0 (by first | rfl | (congr 1 <;> omega)) (.eq m2 (by first | rfl | (congr 1 <;> omega)) (.sl 3 3 rfl)))))))))))))
 exact CT.sub .t1 (CT.exit (EX.then_exit (EX.then_exit (EX.out (EX.q (TL.m m1 (TL.rm .h5 (TL.a m0 (TL.sub (.hd .t1) (TL.e (CT.ret (EX.end_ (.inl rfl) (res1 Tryz.results95 m0) (fun _ hS => ⟨by obtain rfl : k = ls.length := (by omega); rfl, hS⟩)))))))))))))
theorem t98_full {p at_ : Nat} {sv dv : Value} {B : List Bool} {out : List Nat} (A : HProp) (ls : List Nat) (lb lo lc : Nat) (hR : ∀ {G w : World} {L : List HProp}, A ∈ L → Sat G w L → ∀ j x, ls[j]? = some x → w.cell? ⟨lb, lo + j, none⟩ = some (i64 x)) (hls : ls.length ≤ 1024) (h15 : ∀ x ∈ ls, x ≤ 15) (hF : Full ls) {G : World} {R : List HProp} {w : World} (hS : Sat G w ((Sp p sv (B) at_ dv out ((-1))) :: A :: R)) :
 CallsR Tryz.prog 98 #[(.pointer (some ⟨p, 0, none⟩)), (.slice (some ⟨lb, lo, none⟩) ls.length lc)] w (fun v w' => v = .tuple #[] ∧ Sat G w' (Sp p sv B at_ dv out (-1) :: A :: R)) := by
 have hk := hF.kraft h15
 refine calls_in (n := 17) [(0, (.pointer (some ⟨p, 0, none⟩))), (1, (.slice (some ⟨lb, lo, none⟩) ls.length lc))] Tryz.func98 rfl rfl hS args2 ?_
 refine CT.q (TL.m m1 (TL.perm p1 (TL.call (r_call ce_62 (.cons (.t m0) .nil)) (fun w hS => t62 A ls lb lo lc hR hls h15 hS) ?_)))
 rintro _ w6 ⟨rfl, hS⟩
 refine TW.at hS ?_
 refine TL.a m0 (TL.sub (.hd (.tl (.tl (.hd .t1)))) (TL.e (CT.block (CT.q (TL.m m0 (TL.val (r_lss (.t m0) .c) (TL.a m0 (TL.sub (.hd .t2) (TL.e (CT.ifd m0 (fun c7 => ?_) (fun c7 => ?_)))))))))))
 ·
  exfalso; omega
 refine CT.sub .t1 (CT.q (TL.m m0 (TL.val (r_gtr (.t m0) .c) (TL.a m0 (TL.sub (.hd .t2) (TL.e (CT.ifd m0 (fun c12 => ?_) (fun c12 => ?_))))))))
 ·
  exfalso; omega
 exact CT.sub .t1 (CT.skip (EX.bnormal (EX.perm p1 (EX.end_ (.inr rfl) (res0 Tryz.results98) (fun _ hS => ⟨rfl, hS⟩)))))
theorem t98_over {p at_ : Nat} {sv dv : Value} {B : List Bool} {out : List Nat} (A : HProp) (ls : List Nat) (lb lo lc : Nat) (hR : ∀ {G w : World} {L : List HProp}, A ∈ L → Sat G w L → ∀ j x, ls[j]? = some x → w.cell? ⟨lb, lo + j, none⟩ = some (i64 x)) (hls : ls.length ≤ 1024) (h15 : ∀ x ∈ ls, x ≤ 15) (hF : Over ls) {G : World} {R : List HProp} {w : World} (hS : Sat G w ((Sp p sv (B) at_ dv out ((-1))) :: A :: R)) :
 CallsR Tryz.prog 98 #[(.pointer (some ⟨p, 0, none⟩)), (.slice (some ⟨lb, lo, none⟩) ls.length lc)] w (fun v w' => v = .tuple #[] ∧ Sat G w' (Sp p sv B at_ dv out 2 :: A :: R)) := by
 have hk := hF.kraft h15
 refine calls_in (n := 17) [(0, (.pointer (some ⟨p, 0, none⟩))), (1, (.slice (some ⟨lb, lo, none⟩) ls.length lc))] Tryz.func98 rfl rfl hS args2 ?_
 refine CT.q (TL.m m1 (TL.perm p1 (TL.call (r_call ce_62 (.cons (.t m0) .nil)) (fun w hS => t62 A ls lb lo lc hR hls h15 hS) ?_)))
 rintro _ w6 ⟨rfl, hS⟩
 refine TW.at hS ?_
 refine TL.a m0 (TL.sub (.hd (.tl (.tl (.hd .t1)))) (TL.e (CT.block (CT.q (TL.m m0 (TL.val (r_lss (.t m0) .c) (TL.a m0 (TL.sub (.hd .t2) (TL.e (CT.ifd m0 (fun c7 => ?_) (fun c7 => ?_)))))))))))
 ·
  refine CT.sub .t1 (CT.region (TL.m m1 (TL.perm p1 (TL.call (r_call ce_49 (.cons (.t m0) (.cons .c .nil))) (fun w hS => t49_1 hS) ?_))))
  rintro _ w11 ⟨rfl, hS⟩
  refine TW.at hS ?_
  exact TL.sub .t2 (TL.nil (EX.bnormal (EX.perm p1 (EX.perm p1 (EX.end_ (.inr rfl) (res0 Tryz.results98) (fun _ hS => ⟨rfl, hS⟩))))))
 exfalso; omega
theorem t98_off {p at_ : Nat} {sv dv : Value} {B : List Bool} {out : List Nat} (A : HProp) (ls : List Nat) (lb lo lc : Nat) (hR : ∀ {G w : World} {L : List HProp}, A ∈ L → Sat G w L → ∀ j x, ls[j]? = some x → w.cell? ⟨lb, lo + j, none⟩ = some (i64 x)) (hls : ls.length ≤ 1024) (h15 : ∀ x ∈ ls, x ≤ 15) {e : Int} (he : ¬ e < 0) {G : World} {R : List HProp} {w : World} (hS : Sat G w ((Sp p sv (B) at_ dv out e) :: A :: R)) :
 CallsR Tryz.prog 98 #[(.pointer (some ⟨p, 0, none⟩)), (.slice (some ⟨lb, lo, none⟩) ls.length lc)] w (fun v w' => v = .tuple #[] ∧ Sat G w' (Sp p sv B at_ dv out e :: A :: R)) := by
 refine calls_in (n := 17) [(0, (.pointer (some ⟨p, 0, none⟩))), (1, (.slice (some ⟨lb, lo, none⟩) ls.length lc))] Tryz.func98 rfl rfl hS args2 ?_
 refine CT.q (TL.m m1 (TL.perm p1 (TL.call (r_call ce_62 (.cons (.t m0) .nil)) (fun w hS => t62 A ls lb lo lc hR hls h15 hS) ?_)))
 rintro _ w6 ⟨rfl, hS⟩
 refine TW.at hS ?_
 refine TL.a m0 (TL.sub (.hd (.tl (.tl (.hd .t1)))) (TL.e (CT.block (CT.q (TL.m m0 (TL.val (r_lss (.t m0) .c) (TL.a m0 (TL.sub (.hd .t2) (TL.e (CT.ifd m0 (fun c7 => ?_) (fun c7 => ?_)))))))))))
 ·
  refine CT.sub .t1 (CT.region (TL.m m1 (TL.perm p1 (TL.call (r_call ce_49 (.cons (.t m0) (.cons .c .nil))) (fun w hS => t49_2 he hS) ?_))))
  rintro _ w11 ⟨rfl, hS⟩
  refine TW.at hS ?_
  exact TL.sub .t2 (TL.nil (EX.bnormal (EX.perm p1 (EX.perm p1 (EX.end_ (.inr rfl) (res0 Tryz.results98) (fun _ hS => ⟨rfl, hS⟩))))))
 refine CT.sub .t1 (CT.q (TL.m m0 (TL.val (r_gtr (.t m0) .c) (TL.a m0 (TL.sub (.hd .t2) (TL.e (CT.ifd m0 (fun c12 => ?_) (fun c12 => ?_))))))))
 ·
  refine CT.sub .t1 (CT.region (TL.m m1 (TL.perm p1 (TL.call (r_call ce_49 (.cons (.t m0) (.cons .c .nil))) (fun w hS => t49_2 he hS) ?_))))
  rintro _ w16 ⟨rfl, hS⟩
  refine TW.at hS ?_
  exact TL.sub .t2 (TL.nil (EX.bnormal (EX.perm p1 (EX.perm p1 (EX.end_ (.inr rfl) (res0 Tryz.results98) (fun _ hS => ⟨rfl, hS⟩))))))
 exact CT.sub .t1 (CT.skip (EX.bnormal (EX.perm p1 (EX.end_ (.inr rfl) (res0 Tryz.results98) (fun _ hS => ⟨rfl, hS⟩)))))
end Go.Eng
namespace Go.Eng
open Go Go.Proofs Go.Infl
def BkO (b : Nat) (ls : List Nat) : HProp := fun m => Full ls → Bk b ls m
section
variable {G w : World} {R : List HProp} {b : Nat} {ls : List Nat}
theorem bk_of_p (h2 : 2 ≤ usedN ls ls.length) (h : Sat G w (BkP b ls ls.length :: R)) : Sat G w (Bk b ls :: R) := by
 obtain ⟨f, sz, ⟨h1, h3⟩, hs, h⟩ := h.bkp
 have hb : BkF ls f := ⟨fun i hi => h1 i hi.1 hi, fun x y hxy => by obtain ⟨i, _, h4, h5⟩ := h3 x y hxy; exact ⟨i, h4, h5⟩⟩
 have h4 : Sat G w (hpure (BkF ls f ∧ 2 ≤ sz) :: imap b f sz :: R) := h.emp ⟨hb, by omega⟩
 exact (Sat.resep (Ls := [hpure (BkF ls f ∧ 2 ≤ sz), imap b f sz]) h4).imp fun m hm => ⟨(f, sz), hm⟩
theorem bko_of_p (hf : Full ls ∨ ∀ x ∈ ls, x = 0) (h : Sat G w (BkP b ls ls.length :: R)) : Sat G w (BkO b ls :: R) := by
 rcases hf with hf | hz
 ·
  exact (bk_of_p (usedN_two hf) h).imp fun _ hm _ => hm
 exact h.imp fun _ _ hf => absurd hz hf.some
theorem fits_or (hf : Full ls ∨ ∀ x ∈ ls, x = 0) : Fits ls := by
 rcases hf with hf | hz
 ·
  exact hf.fits
 exact fun i hi => by
  have := hz _ (List.mem_of_getElem? (lens_get hi))
  have := hi.2.1
  omega
theorem full_of {k : Nat} (hf : Full ls ∨ ∀ x ∈ ls, x = 0) (hk : LOk ls k) : Full ls := hf.resolve_right fun hz => by
 have := hz _ (List.mem_of_getElem? (lens_get hk))
 have := hk.2.1
 omega
theorem drop34 {A B C D E : HProp} (h : Sat G w (A :: B :: C :: D :: E :: R)) : Sat G w (A :: B :: C :: R) := ((h.perm p4).tail.perm p3).tail
end
theorem lenBase_ge {k : Nat} (h1 : 257 ≤ k) (h2 : k ≤ 285) : 3 ≤ lenBase k := by
 have : ∀ j, j < 29 → 3 ≤ lenBase (257 + j) := by decide
 have := this (k - 257) (by omega)
 rwa [show 257 + (k - 257) = k by omega] at this
theorem distBase_ge {k : Nat} (h : k ≤ 29) : 1 ≤ distBase k := by
 have : ∀ j, j < 30 → 1 ≤ distBase j := by decide
 exact this k (by omega)
theorem t74 {p at_ dc lb lo lc xb xo xc : Nat} {sv : Value} {dp : Option Addr} {B : List Bool} {out dd ls ds : List Nat} {DA : HProp} {fin : Bool} {hF : List Nat × Bool} (hDR : DRd DA (.slice dp dd.length dc) dd) (hdd : dd.length ≤ 32768) (A : HProp) (hRl : ∀ {G w : World} {L : List HProp}, A ∈ L → Sat G w L → ∀ j x, ls[j]? = some x → w.cell? ⟨lb, lo + j, none⟩ = some (i64 x)) (hRd : ∀ {G w : World} {L : List HProp}, A ∈ L → Sat G w L → ∀ j x, ds[j]? = some x → w.cell? ⟨xb, xo + j, none⟩ = some (i64 x)) (hls : ls.length ≤ 1024) (hds : ds.length ≤ 1024) (h15l : ∀ x ∈ ls, x ≤ 15) (h15d : ∀ x ∈ ds, x ≤ 15) (hfl : Full ls) (hfd : Full ds ∨ ∀ x ∈ ds, x = 0) (h256 : LOk ls 256) (ht : HTail ls ds fin at_ (B.drop at_) (dd ++ out) hF) (hat : at_ ≤ B.length) (hBl : B.length < 1099511627776) (ho : hF.1.length ≤ dd.length + 131072) {G : World} {R : List HProp} {w : World} (hS : Sat G w ((Sp p sv (B) at_ (.slice dp dd.length dc) out ((-1))) :: DA :: A :: R)) :
 CallsR Tryz.prog 74 #[(.pointer (some ⟨p, 0, none⟩)), (.slice (some ⟨lb, lo, none⟩) ls.length lc), (.slice (some ⟨xb, xo, none⟩) ds.length xc)] w (fun v w' => v = .tuple #[] ∧ ∃ (at' : Nat) (out' : List Nat), at_ < at' ∧ at' ≤ B.length ∧ ((After fin at' (B.drop at') (dd ++ out') hF ∧ Sat G w' (Sp p sv B at' (.slice dp dd.length dc) out' (-1) :: DA :: A :: R)) ∨ (hF = (dd ++ out', false) ∧ Sat G w' (Sp p sv B at' (.slice dp dd.length dc) out' 2 :: DA :: A :: R)))) := by
 refine calls_in (n := 92) [(0, (.pointer (some ⟨p, 0, none⟩))), (1, (.slice (some ⟨lb, lo, none⟩) ls.length lc)), (2, (.slice (some ⟨xb, xo, none⟩) ds.length xc))] Tryz.func74 rfl rfl hS args3 ?_
 refine CT.q (TL.m m1 (TL.perm p2 (TL.call (r_call ce_92 (.cons (.t m0) .nil)) (fun w hS => t92 A ls lb lo lc hRl hls h15l hfl.fits hS) ?_)))
 rintro _ w16 ⟨mb1, rfl, hS⟩
 refine TW.at hS ?_
 refine TL.conv (fun _ h => bk_of_p (usedN_two hfl) h) (TL.m m4 (TL.perm p1 (TL.call (r_call ce_92 (.cons (.t m0) .nil)) (fun w hS => t92 A ds xb xo xc hRd hds h15d (fits_or hfd) hS) ?_)))
 rintro _ w18 ⟨mb2, rfl, hS⟩
 refine TW.at hS ?_
 refine TL.conv (fun _ h => bko_of_p hfd h) (TL.a m2 (TL.a m1 (TL.sub (.hd (.hd (.tl (.tl (.tl (.tl (.hd .t1))))))) (TL.e (CT.block (CT.fold (A' := (Sp p sv (B) at_ (.slice dp dd.length dc) out (cond false 2 (-1)))) a3 (Sp_eq rfl rfl) (CT.perm p2 (CT.perm p2 (CT.perm p4 (CT.perm p4 (CT.loop (X := Bool × Nat × List Nat) (fun gx => [(7, (.map (some mb2))), (6, (.map (some mb1))), (0, (.pointer (some ⟨p, 0, none⟩))), (2, (.slice (some ⟨xb, xo, none⟩) ds.length xc))]) (fun gx => (Sp p sv (B) gx.2.1 (.slice dp dd.length dc) gx.2.2 (cond gx.1 2 (-1))) :: DA :: A :: (Bk mb1 ls) :: (BkO mb2 ds) :: R) (fun gx => (gx.1 = false → HTail ls ds fin gx.2.1 (B.drop gx.2.1) (dd ++ gx.2.2) hF) ∧ (gx.1 = true → hF = (dd ++ gx.2.2, false) ∧ at_ < gx.2.1) ∧ gx.2.1 ≤ B.length ∧ at_ ≤ gx.2.1) (fun gx => (cond gx.1 0 1) + (B.length - gx.2.1)) ((false, at_, out)) (⟨fun _ => ht, (fun h => by cases h), hat, Nat.le_refl _⟩) (.refl _) (.sl 0 4 rfl) ?_)))))))))))
 rintro ⟨done, kk, o1⟩ ⟨hJ1, hJ2, hJ3, hJ4⟩
 show CT _ _ _ [(7, (.map (some mb2))), (6, (.map (some mb1))), (0, (.pointer (some ⟨p, 0, none⟩))), (2, (.slice (some ⟨xb, xo, none⟩) ds.length xc))] _ _ ((Sp p sv (B) kk (.slice dp dd.length dc) o1 (cond done 2 (-1))) :: DA :: A :: (Bk mb1 ls) :: (BkO mb2 ds) :: R)
 replace hJ1 : done = false → HTail ls ds fin kk (B.drop kk) (dd ++ o1) hF := hJ1
 replace hJ2 : done = true → hF = (dd ++ o1, false) ∧ at_ < kk := hJ2
 replace hJ3 : kk ≤ B.length := hJ3
 replace hJ4 : at_ ≤ kk := hJ4
 refine CT.seq (CT.q (TL.m m2 (TL.call (r_call ce_47 (.cons (.t m0) .nil)) (fun w hS => t47 (r := (!done)) (by cases done <;> rfl) hS) ?_)))
 rintro _ w20 ⟨rfl, hS⟩
 refine TW.at hS ?_
 refine TL.sub (.hd .t1) (TL.e (CT.iff m0 (fun c20 => ?_) (fun c20 => ?_)))
 ·
  obtain rfl : done = false := by simpa using c20
  have hI1 := hJ1 rfl
  obtain ⟨hstep, hlen⟩ := hI1.step
  have hnx := hstep.next
  clear hstep
  have hol := hI1.len
  rw [List.length_append] at hol
  have hlb := List.length_drop (i := kk) (l := B)
  generalize hbits : B.drop kk = bits at hnx hlen hlb
  refine CT.sub .t1 (CT.skip (EX.seq (CT.block (CT.seq ?_))))
  rcases hnx with @⟨y, rest, hok, hy, htl⟩ | @⟨rest, haf⟩ | @⟨y, rest, hy, hok, he⟩ | @⟨n, c, v, c2, rest, hla, hok, hok2, hda⟩
  ·
   have hlk1 := hok.2.1; have hlk2 := hok.2.2
   have hdr1 := drop_app hbits
   rw [symB_length] at hdr1
   rw [List.length_append, symB_length] at hlb
   have hol2 := htl.len
   simp only [List.length_append, List.length_singleton] at hol2
   refine CT.region (TL.m m2 (TL.m m2 (TL.perm p3 (TL.perm p1 (TL.call (r_call ce_93 (.cons (.t m1) (.cons (.t m0) .nil))) (fun w hS => t93 (by omega) hfl.fits hok hbits hS) ?_)))))
   rintro _ w23 ⟨rfl, hS⟩
   refine TW.at hS ?_
   refine TL.a m0 (TL.sub (.hd .t3) (TL.e (CT.seq (CT.block (CT.q (TL.m m3 (TL.call (r_call ce_47 (.cons (.t m0) .nil)) (fun w hS => t47 (r := true) (by decide) hS) ?_)))))))
   rintro _ w26 ⟨rfl, hS⟩
   refine TW.at hS ?_
   refine TL.val (r_nott (.t m0)) (TL.a m0 (TL.sub (.hd .t3) (TL.e (CT.iff_ m0 ?_))))
   refine CT.sub .t1 (CT.q (TL.m m0 (TL.val (n_lss y 256 (.t m0) .c rfl rfl) (TL.a m0 (TL.sub (.hd .t2) (TL.e (CT.ifd m0 (fun c28 => ?_) (fun c28 => ?_))))))))
   ·
    refine CT.sub .t1 (CT.q (TL.m m3 (TL.m m1 (TL.val (n_conv y 256 ⟨_, Tryz.underlying3⟩ Tryz.underlying5 (.t m0) rfl (by omega)) (TL.call (r_call ce_91 (.cons (.t m2) (.cons (.t m0) .nil))) (fun w hS => t91 y (by omega) hS) ?_)))))
    rintro _ w34 ⟨rfl, hS⟩
    refine TW.at hS ?_
    refine TL.sub .t4 (TL.e (CT.exit (EX.past ?_)))
    exact EX.then_exit (EX.out (EX.fold (A' := (Sp p sv (B) (kk + ls.getD y 0) (.slice dp dd.length dc) (o1 ++ [y]) (cond false 2 (-1)))) a0 (Sp_eq rfl rfl) (EX.perm p4 (EX.perm p2 (EX.perm p4 (EX.perm p4 (EX.perm p4 (EX.again ((false, kk + ls.getD y 0, o1 ++ [y])) (⟨(fun _ => by show HTail ls ds fin (kk + ls.getD y 0) (B.drop (kk + ls.getD y 0)) (dd ++ (o1 ++ [y])) hF; rw [hdr1, ← List.append_assoc]; exact htl), (fun h => by cases h), (by show kk + ls.getD y 0 ≤ B.length; omega), by show at_ ≤ kk + ls.getD y 0; omega⟩) (by show 1 + (B.length - (kk + ls.getD y 0)) < 1 + (B.length - kk); omega) (.refl _) (.sl 1 4 rfl)))))))))
   exfalso; omega
  ·
   have hok := h256
   have hlk1 := hok.2.1; have hlk2 := hok.2.2
   have hdr1 := drop_app hbits
   rw [symB_length] at hdr1
   rw [List.length_append, symB_length] at hlb
   refine CT.region (TL.m m2 (TL.m m2 (TL.perm p3 (TL.perm p1 (TL.call (r_call ce_93 (.cons (.t m1) (.cons (.t m0) .nil))) (fun w hS => t93 (by omega) hfl.fits hok hbits hS) ?_)))))
   rintro _ w23 ⟨rfl, hS⟩
   refine TW.at hS ?_
   refine TL.a m0 (TL.sub (.hd .t3) (TL.e (CT.seq (CT.block (CT.q (TL.m m3 (TL.call (r_call ce_47 (.cons (.t m0) .nil)) (fun w hS => t47 (r := true) (by decide) hS) ?_)))))))
   rintro _ w26 ⟨rfl, hS⟩
   refine TW.at hS ?_
   refine TL.val (r_nott (.t m0)) (TL.a m0 (TL.sub (.hd .t3) (TL.e (CT.iff_ m0 ?_))))
   refine CT.sub .t1 (CT.q (TL.m m0 (TL.val (show Run _ _ _ _ _ _ (.bool false) from n_lss 256 256 (.t m0) .c rfl rfl) (TL.a m0 (TL.sub (.hd .t2) (TL.e (CT.iff_ m0 ?_)))))))
   refine CT.sub .t1 (CT.q (TL.m m0 (TL.val (show Run _ _ _ _ _ _ (.bool true) from n_eql 256 256 (.t m0) .c rfl rfl) (TL.a m0 (TL.sub (.hd .t2) (TL.e (CT.ift m0 ?_)))))))
   exact CT.sub .t1 (CT.ret (EX.bret (EX.then_ret (EX.bret (EX.then_ret (EX.bret (EX.perm p3 (EX.perm p3 (EX.perm p2 (EX.end_ (.inl rfl) (res0 Tryz.results74) (fun _ hS => ⟨rfl, kk + ls.getD 256 0, o1, by omega, by omega, .inl ⟨by rw [hdr1]; exact haf, drop34 hS⟩⟩)))))))))))
  ·
   have hlk1 := hok.2.1; have hlk2 := hok.2.2
   have hdr1 := drop_app hbits
   rw [symB_length] at hdr1
   rw [List.length_append, symB_length] at hlb
   refine CT.region (TL.m m2 (TL.m m2 (TL.perm p3 (TL.perm p1 (TL.call (r_call ce_93 (.cons (.t m1) (.cons (.t m0) .nil))) (fun w hS => t93 (by omega) hfl.fits hok hbits hS) ?_)))))
   rintro _ w23 ⟨rfl, hS⟩
   refine TW.at hS ?_
   refine TL.a m0 (TL.sub (.hd .t3) (TL.e (CT.seq (CT.block (CT.q (TL.m m3 (TL.call (r_call ce_47 (.cons (.t m0) .nil)) (fun w hS => t47 (r := true) (by decide) hS) ?_)))))))
   rintro _ w26 ⟨rfl, hS⟩
   refine TW.at hS ?_
   refine TL.val (r_nott (.t m0)) (TL.a m0 (TL.sub (.hd .t3) (TL.e (CT.iff_ m0 ?_))))
   refine CT.sub .t1 (CT.q (TL.m m0 (TL.val (n_lss y 256 (.t m0) .c rfl rfl) (TL.a m0 (TL.sub (.hd .t2) (TL.e (CT.ifd m0 (fun c28 => ?_) (fun c28 => ?_))))))))
   ·
    exfalso; omega
   refine CT.sub .t1 (CT.q (TL.m m0 (TL.val (n_eql y 256 (.t m0) .c rfl rfl) (TL.a m0 (TL.sub (.hd .t2) (TL.e (CT.ifd m0 (fun c35 => ?_) (fun c35 => ?_))))))))
   ·
    exfalso; omega
   refine CT.sub .t1 (CT.skip (EX.bnormal (EX.q (TL.m m0 (TL.call (r_call ce_94 (.cons (.t m0) .nil)) (fun w hS => t94_z y (by omega) hS) ?_)))))
   rintro _ w40 ⟨rfl, hS⟩
   refine TW.at hS ?_
   refine TL.m m0 (TL.val (r_ext (.t m0)) (TL.val (r_ext (.t m1)) (TL.a m1 (TL.a m1 (TL.sub (.hd (.hd .t5)) (TL.e (CT.seq (CT.q (TL.m m1 (TL.val (show Run _ _ _ _ _ _ (.bool true) from n_eql 0 0 (.t m0) .c rfl rfl) (TL.sub (.hd .t1) (TL.e (CT.ift m0 ?_)))))))))))))
   refine CT.sub .t1 (CT.q (TL.m m5 (TL.call (r_call ce_49 (.cons (.t m0) (.cons .c .nil))) (fun w hS => t49_1 hS) ?_)))
   rintro _ w46 ⟨rfl, hS⟩
   refine TW.at hS ?_
   exact TL.sub .t2 (TL.e (CT.ret (EX.then_ret (EX.bret (EX.then_ret (EX.bret (EX.perm p3 (EX.perm p3 (EX.perm p2 (EX.end_ (.inl rfl) (res0 Tryz.results74) (fun _ hS => ⟨rfl, kk + ls.getD y 0, o1, by omega, by omega, .inr ⟨he, drop34 hS⟩⟩)))))))))))
  have hlk1 := hok.2.1; have hlk2 := hok.2.2
  have hdr1 := drop_app hbits
  rw [symB_length] at hdr1
  simp only [List.length_append, symB_length, nbits_length] at hlb
  have hc1 := hla.1
  have hc2 := hla.2.1
  have hv := hla.2.2.2.1
  have hnn := hla.2.2.1
  have hno := hla.2.2.2.2
  have hle := lenExtra_le c hc2
  have hb3 := lenBase_ge hc1 hc2
  have hup := usedN_pos hok2
  have hlm := len_max hla
  refine CT.region (TL.m m2 (TL.m m2 (TL.perm p3 (TL.perm p1 (TL.call (r_call ce_93 (.cons (.t m1) (.cons (.t m0) .nil))) (fun w hS => t93 (by omega) hfl.fits hok hbits hS) ?_)))))
  rintro _ w23 ⟨rfl, hS⟩
  refine TW.at hS ?_
  refine TL.a m0 (TL.sub (.hd .t3) (TL.e (CT.seq (CT.block (CT.q (TL.m m3 (TL.call (r_call ce_47 (.cons (.t m0) .nil)) (fun w hS => t47 (r := true) (by decide) hS) ?_)))))))
  rintro _ w26 ⟨rfl, hS⟩
  refine TW.at hS ?_
  refine TL.val (r_nott (.t m0)) (TL.a m0 (TL.sub (.hd .t3) (TL.e (CT.iff_ m0 ?_))))
  refine CT.sub .t1 (CT.q (TL.m m0 (TL.val (n_lss c 256 (.t m0) .c rfl rfl) (TL.a m0 (TL.sub (.hd .t2) (TL.e (CT.ifd m0 (fun c28 => ?_) (fun c28 => ?_))))))))
  ·
   exfalso; omega
  refine CT.sub .t1 (CT.q (TL.m m0 (TL.val (n_eql c 256 (.t m0) .c rfl rfl) (TL.a m0 (TL.sub (.hd .t2) (TL.e (CT.ifd m0 (fun c35 => ?_) (fun c35 => ?_))))))))
  ·
   exfalso; omega
  refine CT.sub .t1 (CT.skip (EX.bnormal (EX.q (TL.m m0 (TL.call (r_call ce_94 (.cons (.t m0) .nil)) (fun w hS => t94 c hc1 hc2 hS) ?_)))))
  rintro _ w40 ⟨rfl, hS⟩
  refine TW.at hS ?_
  refine TL.m m0 (TL.val (r_ext (.t m0)) (TL.val (r_ext (.t m1)) (TL.a m1 (TL.a m1 (TL.sub (.hd (.hd .t5)) (TL.e (CT.seq (CT.q (TL.m m1 (TL.val (n_eql ((lenBase c)) 0 (.t m0) .c rfl rfl) (TL.sub (.hd .t1) (TL.e (CT.ifd m0 (fun c44 => ?_) (fun c44 => ?_))))))))))))))
  ·
   exfalso; omega
  refine CT.sub .t1 (CT.skip (EX.q (TL.m m1 (TL.m m6 (TL.m m2 (TL.call (r_call ce_72 (.cons (.t m1) (.cons (.t m0) .nil))) (fun w hS => t72 v ((lenExtra c)) (rest := (symB ds c2 ++ rest)) (by omega) (by omega) hv hdr1 hS) ?_))))))
  rintro _ w50 ⟨rfl, hS⟩
  refine TW.at hS ?_
  refine TL.val (n_add ((lenBase c)) (v) 9223372036854775808 (.t m3) (.t m0) rfl rfl (by omega)) (TL.a m0 (TL.sub (.hd .t5) ?_))
  have hdr2 := drop_app hdr1
  rw [nbits_length] at hdr2
  refine TL.fold (A' := (Sp p sv (B) (kk + ls.getD c 0 + lenExtra c) (.slice dp dd.length dc) o1 ((-1)))) a0 (Sp_eq rfl rfl) ?_
  refine TL.e (CT.seq (CT.cut (X := Unit) (fun gx => [(61, (.bool false)), (11, (i64 ((lenBase c) + v))), (10, (i64 (lenExtra c))), (9, (i64 (lenBase c))), (8, (i64 c)), (7, (.map (some mb2))), (6, (.map (some mb1))), (0, (.pointer (some ⟨p, 0, none⟩))), (2, (.slice (some ⟨xb, xo, none⟩) ds.length xc))]) (fun gx => (Sp p sv (B) (kk + ls.getD c 0 + lenExtra c) (.slice dp dd.length dc) o1 ((-1))) :: DA :: A :: (Bk mb1 ls) :: (BkO mb2 ds) :: R) (fun gx => True) ?_ ?_))
  ·
   refine CT.region (TL.m m6 (TL.call (r_call ce_47 (.cons (.t m0) .nil)) (fun w hS => t47 (r := true) (by decide) hS) ?_))
   rintro _ w53 ⟨rfl, hS⟩
   refine TW.at hS ?_
   refine TL.m m0 (TL.gv m0 (r_move (.t m6)) (TL.gv m1 (n_eql c 284 (.t m0) .c rfl rfl) (TL.val (r_pickt (.t m2) (.t m0)) (TL.m m0 ?_))))
   by_cases g58 : c = 284
   ·
    have h227 : lenBase c = 227 := by rw [g58]; rfl
    exact TL.sub (.eq m0 (congrArg Value.bool (decide_eq_true g58)) (.eq m1 (congrArg Value.bool (decide_eq_true g58)) (.eq m2 (congrArg Value.bool (decide_eq_true g58)) (.cons m3 (.cons m4 (.cons m5 (.cons m6 (.cons m7 (.cons m8 (.cons m9 (.cons m10 (.cons m11 (.cons m12 (.cons m13 (.cons m14 .nil))))))))))))))) (TL.gv m0 (r_move (.t m7)) (TL.gv m1 (n_eql (((lenBase c) + v)) 258 (.t m0) .c rfl rfl) (TL.val (r_pickt (.t m2) (.t m0)) (TL.sub (.hd .t9) (TL.nil (EX.perm p4 (EX.perm p2 (EX.perm p4 (EX.perm p4 (EX.perm p4 (EX.meet () trivial (.refl _) (.eq m0 (by first | rfl | exact congrArg Value.bool (decide_eq_false (by omega)) | (congr 1 <;> omega)) (.sl 1 8 rfl)))))))))))))
   exact TL.sub (.eq m0 (congrArg Value.bool (decide_eq_false g58)) (.eq m1 (congrArg Value.bool (decide_eq_false g58)) (.eq m2 (congrArg Value.bool (decide_eq_false g58)) (.cons m3 (.cons m4 (.cons m5 (.cons m6 (.cons m7 (.cons m8 (.cons m9 (.cons m10 (.cons m11 (.cons m12 (.cons m13 (.cons m14 .nil))))))))))))))) (TL.gn m0 (TL.gn m0 (TL.val (r_pickf (.t m0) .c) (TL.sub (.hd .t7) (TL.nil (EX.perm p4 (EX.perm p2 (EX.perm p4 (EX.perm p4 (EX.perm p4 (EX.meet () trivial (.refl _) (.sl 0 9 rfl))))))))))))
  rintro ⟨⟩ -
  show CT _ _ _ [(61, (.bool false)), (11, (i64 ((lenBase c) + v))), (10, (i64 (lenExtra c))), (9, (i64 (lenBase c))), (8, (i64 c)), (7, (.map (some mb2))), (6, (.map (some mb1))), (0, (.pointer (some ⟨p, 0, none⟩))), (2, (.slice (some ⟨xb, xo, none⟩) ds.length xc))] _ _ ((Sp p sv (B) (kk + ls.getD c 0 + lenExtra c) (.slice dp dd.length dc) o1 ((-1))) :: DA :: A :: (Bk mb1 ls) :: (BkO mb2 ds) :: R)
  refine CT.iff_ m0 ?_
  refine CT.sub .t1 (CT.skip (EX.seq (CT.seq (CT.q (TL.m m7 (TL.perm p2 (TL.call (r_call ce_95 (.cons (.t m0) .nil)) (fun w hS => t95 A ds xb xo xc hRd hds h15d hS) ?_)))))))
  rintro _ w65 ⟨rfl, hS⟩
  refine TW.at hS ?_
  refine TL.val (n_eql ((usedN ds ds.length)) 0 (.t m0) .c rfl rfl) (TL.sub (.hd .t2) (TL.e (CT.ifd m0 (fun c66 => ?_) (fun c66 => ?_))))
  ·
   exfalso; omega
  refine CT.sub .t1 (CT.skip (EX.q (TL.m m6 (TL.m m5 (TL.perm p4 (TL.conv (fun _ h => h.imp fun _ hm => hm (full_of hfd hok2)) (TL.perm p2 (TL.call (r_call ce_93 (.cons (.t m1) (.cons (.t m0) .nil))) (fun w hS => t93 (by omega) (fits_or hfd) hok2 hdr2 hS) ?_))))))))
  rintro _ w71 ⟨rfl, hS⟩
  refine TW.at hS ?_
  refine TL.perm p1 (TL.conv (fun _ h => h.imp (B := BkO mb2 ds) fun _ hm _ => hm) (TL.a m0 (TL.sub (.hd .t3) (TL.e (CT.seq (CT.q (TL.m m7 (TL.perm p1 (TL.call (r_call ce_47 (.cons (.t m0) .nil)) (fun w hS => t47 (r := true) (by decide) hS) ?_)))))))))
  rintro _ w73 ⟨rfl, hS⟩
  refine TW.at hS ?_
  refine TL.val (r_nott (.t m0)) (TL.sub (.hd .t2) (TL.e (CT.iff_ m0 ?_)))
  refine CT.sub .t1 (CT.skip (EX.seq (CT.seq ?_)))
  have hdr3a := drop_app hdr2
  rw [symB_length] at hdr3a
  rcases hda with ⟨d, v2, rest2, hda, rfl, hfar⟩ | ⟨h30, he⟩
  ·
   have hdr3 := hdr3a
   have hdx := distExtra_le c2 hda.1
   have hd1 := hda.2.1
   have hd2 := hda.2.2
   have hdb := distBase_ge hda.1
   have hdm := dist_max hda
   rw [List.length_append, nbits_length] at hlb
   refine CT.region (TL.m m0 (TL.call (r_call ce_96 (.cons (.t m0) .nil)) (fun w hS => t96 c2 hda.1 hS) ?_))
   rintro _ w77 ⟨rfl, hS⟩
   refine TW.at hS ?_
   refine TL.m m0 (TL.val (r_ext (.t m0)) (TL.val (r_ext (.t m1)) (TL.a m1 (TL.a m1 (TL.sub (.hd (.hd .t5)) (TL.e (CT.seq (CT.q (TL.m m1 (TL.val (n_eql ((distBase c2)) 0 (.t m0) .c rfl rfl) (TL.sub (.hd .t1) (TL.e (CT.ifd m0 (fun c81 => ?_) (fun c81 => ?_))))))))))))))
   ·
    exfalso; omega
   refine CT.sub .t1 (CT.skip (EX.seq ?_))
   rcases hfar with ⟨h3n, hn258, hd1l, hdle, hd32, htl⟩ | ⟨he, hfar⟩
   ·
    have hol2 := htl.len
    rw [copyM_length, List.length_append] at hol2
    have hdr4 := drop_app hdr3
    rw [nbits_length] at hdr4
    refine CT.region (TL.m m9 (TL.m m4 (TL.m m3 (TL.m m12 (TL.m m4 (TL.call (r_call ce_72 (.cons (.t m1) (.cons (.t m0) .nil))) (fun w hS => t72 v2 ((distExtra c2)) (rest := rest2) (by omega) (by omega) hda.2.2 hdr3 hS) ?_))))))
    rintro _ w89 ⟨rfl, hS⟩
    refine TW.at hS ?_
    refine TL.val (n_add ((distBase c2)) (v2) 9223372036854775808 (.t m3) (.t m0) rfl rfl (by omega)) (TL.sub (.cons m0 (.cons m1 (.cons m2 (.cons m3 (.cons m4 (.eq m5 (congrArg (fun z : Nat => Value.int .i64 (z : Int)) hnn) (.cons m6 (.cons m7 (.cons m8 (.cons m9 (.cons m10 (.cons m11 (.cons m12 (.cons m13 (.cons m14 (.cons m15 (.cons m16 (.cons m17 .nil)))))))))))))))))) (TL.sub (.eq m0 (congrArg (fun z : Nat => Value.int .i64 (z : Int)) hda.2.1) (.cons m1 (.cons m2 (.cons m3 (.cons m4 (.cons m5 (.cons m6 (.cons m7 (.cons m8 (.cons m9 (.cons m10 (.cons m11 (.cons m12 (.cons m13 (.cons m14 (.cons m15 (.cons m16 (.cons m17 .nil)))))))))))))))))) (TL.perm p3 (TL.perm p1 (TL.call (r_call ce_97 (.cons (.t m6) (.cons (.t m5) (.cons (.t m0) .nil)))) (fun w hS => t97 hDR hd1l (by rw [List.length_append] at hdle; exact hdle) hd32 (by omega) hn258 hdd hS) ?_)))))
    rintro _ w91 ⟨rfl, hS⟩
    refine TW.at hS ?_
    exact TL.sub .t8 (TL.nil (EX.bnormal (EX.fold (A' := (Sp p sv (B) (kk + ls.getD c 0 + lenExtra c + ds.getD c2 0 + distExtra c2) (.slice dp dd.length dc) (o1 ++ xsM (dd ++ o1) d n) (cond false 2 (-1)))) a0 (Sp_eq rfl rfl) (EX.perm p2 (EX.perm p4 (EX.perm p4 (EX.perm p4 (EX.perm p4 (EX.again ((false, kk + ls.getD c 0 + lenExtra c + ds.getD c2 0 + distExtra c2, o1 ++ xsM (dd ++ o1) d n)) (⟨(fun _ => by show HTail ls ds fin (kk + ls.getD c 0 + lenExtra c + ds.getD c2 0 + distExtra c2) (B.drop (kk + ls.getD c 0 + lenExtra c + ds.getD c2 0 + distExtra c2)) (dd ++ (o1 ++ xsM (dd ++ o1) d n)) hF; rw [hdr4, ← List.append_assoc, ← copyM_split]; exact htl), (fun h => by cases h), (by show kk + ls.getD c 0 + lenExtra c + ds.getD c2 0 + distExtra c2 ≤ B.length; omega), by show at_ ≤ kk + ls.getD c 0 + lenExtra c + ds.getD c2 0 + distExtra c2; omega⟩) (by show 1 + (B.length - (kk + ls.getD c 0 + lenExtra c + ds.getD c2 0 + distExtra c2)) < 1 + (B.length - kk); omega) (.refl _) (.sl 7 4 rfl))))))))))
   have hdr4 := drop_app hdr3
   rw [nbits_length] at hdr4
   refine CT.region (TL.m m9 (TL.m m4 (TL.m m3 (TL.m m12 (TL.m m4 (TL.call (r_call ce_72 (.cons (.t m1) (.cons (.t m0) .nil))) (fun w hS => t72 v2 ((distExtra c2)) (rest := rest2) (by omega) (by omega) hda.2.2 hdr3 hS) ?_))))))
   rintro _ w89 ⟨rfl, hS⟩
   refine TW.at hS ?_
   refine TL.val (n_add ((distBase c2)) (v2) 9223372036854775808 (.t m3) (.t m0) rfl rfl (by omega)) (TL.sub (.cons m0 (.cons m1 (.cons m2 (.cons m3 (.cons m4 (.eq m5 (congrArg (fun z : Nat => Value.int .i64 (z : Int)) hnn) (.cons m6 (.cons m7 (.cons m8 (.cons m9 (.cons m10 (.cons m11 (.cons m12 (.cons m13 (.cons m14 (.cons m15 (.cons m16 (.cons m17 .nil)))))))))))))))))) (TL.sub (.eq m0 (congrArg (fun z : Nat => Value.int .i64 (z : Int)) hda.2.1) (.cons m1 (.cons m2 (.cons m3 (.cons m4 (.cons m5 (.cons m6 (.cons m7 (.cons m8 (.cons m9 (.cons m10 (.cons m11 (.cons m12 (.cons m13 (.cons m14 (.cons m15 (.cons m16 (.cons m17 .nil)))))))))))))))))) (TL.perm p3 (TL.perm p1 (TL.call (r_call ce_97 (.cons (.t m6) (.cons (.t m5) (.cons (.t m0) .nil)))) (fun w hS => t97_b hDR (dist_max hda) (by rw [List.length_append] at hfar; exact hfar) (by omega) hdd hS) ?_)))))
   rintro _ w91 ⟨rfl, hS⟩
   refine TW.at hS ?_
   exact TL.sub .t8 (TL.nil (EX.bnormal (EX.fold (A' := (Sp p sv (B) (kk + ls.getD c 0 + lenExtra c + ds.getD c2 0 + distExtra c2) (.slice dp dd.length dc) o1 (cond true 2 (-1)))) a0 (Sp_eq rfl rfl) (EX.perm p2 (EX.perm p4 (EX.perm p4 (EX.perm p4 (EX.perm p4 (EX.again ((true, kk + ls.getD c 0 + lenExtra c + ds.getD c2 0 + distExtra c2, o1)) (⟨(fun h => by cases h), (fun _ => ⟨he, by show at_ < kk + ls.getD c 0 + lenExtra c + ds.getD c2 0 + distExtra c2; omega⟩), (by show kk + ls.getD c 0 + lenExtra c + ds.getD c2 0 + distExtra c2 ≤ B.length; omega), by show at_ ≤ kk + ls.getD c 0 + lenExtra c + ds.getD c2 0 + distExtra c2; omega⟩) (by show 0 + (B.length - (kk + ls.getD c 0 + lenExtra c + ds.getD c2 0 + distExtra c2)) < 1 + (B.length - kk); omega) (.refl _) (.sl 7 4 rfl))))))))))
  refine CT.region (TL.m m0 (TL.call (r_call ce_96 (.cons (.t m0) .nil)) (fun w hS => t96_z c2 (by omega) hS) ?_))
  rintro _ w77 ⟨rfl, hS⟩
  refine TW.at hS ?_
  refine TL.m m0 (TL.val (r_ext (.t m0)) (TL.val (r_ext (.t m1)) (TL.a m1 (TL.a m1 (TL.sub (.hd (.hd .t5)) (TL.e (CT.seq (CT.q (TL.m m1 (TL.val (show Run _ _ _ _ _ _ (.bool true) from n_eql 0 0 (.t m0) .c rfl rfl) (TL.sub (.hd .t1) (TL.e (CT.ift m0 ?_)))))))))))))
  refine CT.sub .t1 (CT.q (TL.m m9 (TL.call (r_call ce_49 (.cons (.t m0) (.cons .c .nil))) (fun w hS => t49_1 hS) ?_)))
  rintro _ w83 ⟨rfl, hS⟩
  refine TW.at hS ?_
  exact TL.sub .t2 (TL.e (CT.ret (EX.then_ret (EX.bret (EX.then_ret (EX.bret (EX.perm p2 (EX.perm p3 (EX.perm p2 (EX.end_ (.inl rfl) (res0 Tryz.results74) (fun _ hS => ⟨rfl, kk + ls.getD c 0 + lenExtra c + ds.getD c2 0, o1, by omega, by omega, .inr ⟨he, drop34 hS⟩⟩)))))))))))
 obtain rfl : done = true := by simpa using c20
 obtain ⟨he, hlt⟩ := hJ2 rfl
 exact CT.sub .t1 (CT.exit (EX.then_exit (EX.then_exit (EX.out (EX.perm p2 (EX.perm p2 (EX.perm p2 (EX.end_ (.inr rfl) (res0 Tryz.results74) (fun _ hS => ⟨rfl, kk, o1, hlt, hJ3, .inr ⟨he, drop34 hS⟩⟩)))))))))
theorem t74_o {p at_ lb lo lc xb xo xc : Nat} {sv dv : Value} {B : List Bool} {out ls ds : List Nat} (A : HProp) (hRl : ∀ {G w : World} {L : List HProp}, A ∈ L → Sat G w L → ∀ j x, ls[j]? = some x → w.cell? ⟨lb, lo + j, none⟩ = some (i64 x)) (hRd : ∀ {G w : World} {L : List HProp}, A ∈ L → Sat G w L → ∀ j x, ds[j]? = some x → w.cell? ⟨xb, xo + j, none⟩ = some (i64 x)) (hls : ls.length ≤ 1024) (hds : ds.length ≤ 1024) (h15l : ∀ x ∈ ls, x ≤ 15) (h15d : ∀ x ∈ ds, x ≤ 15) {G : World} {R : List HProp} {w : World} (hS : Sat G w ((Sp p sv (B) at_ dv out 2) :: A :: R)) :
 CallsR Tryz.prog 74 #[(.pointer (some ⟨p, 0, none⟩)), (.slice (some ⟨lb, lo, none⟩) ls.length lc), (.slice (some ⟨xb, xo, none⟩) ds.length xc)] w (fun v w' => v = .tuple #[] ∧ Sat G w' (Sp p sv B at_ dv out 2 :: A :: R)) := by
 refine calls_in (n := 92) [(0, (.pointer (some ⟨p, 0, none⟩))), (1, (.slice (some ⟨lb, lo, none⟩) ls.length lc)), (2, (.slice (some ⟨xb, xo, none⟩) ds.length xc))] Tryz.func74 rfl rfl hS args3 ?_
 refine CT.q (TL.m m1 (TL.perm p1 (TL.call (r_call ce_92 (.cons (.t m0) .nil)) (fun w hS => t92_o A ls lb lo lc hRl hls h15l hS) ?_)))
 rintro _ w16 ⟨mb1, fm1, sz1, rfl, hS⟩
 refine TW.at hS ?_
 refine TL.m m4 (TL.perm p1 (TL.call (r_call ce_92 (.cons (.t m0) .nil)) (fun w hS => t92_o A ds xb xo xc hRd hds h15d hS) ?_))
 rintro _ w18 ⟨mb2, fm2, sz2, rfl, hS⟩
 refine TW.at hS ?_
 refine TL.a m2 (TL.a m1 (TL.sub (.hd (.hd (.tl (.tl (.tl (.tl (.hd .t1))))))) (TL.e (CT.block (CT.conv (fun _ h => h.tail) ?_)))))
 refine CT.perm p1 (CT.conv (fun _ h => h.tail) ?_)
 refine CT.perm p1 (CT.loop (X := Unit) (fun gx => [(0, (.pointer (some ⟨p, 0, none⟩))), (2, (.slice (some ⟨xb, xo, none⟩) ds.length xc))]) (fun gx => (Sp p sv (B) at_ dv out 2) :: A :: R) (fun gx => True) (fun gx => 0) () trivial (.refl _) (.cons m2 (.cons m3 .nil)) ?_)
 rintro u -
 show CT _ _ _ [(0, (.pointer (some ⟨p, 0, none⟩))), (2, (.slice (some ⟨xb, xo, none⟩) ds.length xc))] _ _ ((Sp p sv (B) at_ dv out 2) :: A :: R)
 refine CT.seq (CT.q (TL.m m0 (TL.call (r_call ce_47 (.cons (.t m0) .nil)) (fun w hS => t47 (r := false) (by decide) hS) ?_)))
 rintro _ w20 ⟨rfl, hS⟩
 refine TW.at hS ?_
 refine TL.sub (.hd .t1) (TL.e (CT.iff_ m0 ?_))
 exact CT.sub .t1 (CT.exit (EX.then_exit (EX.then_exit (EX.out (EX.perm p1 (EX.perm p1 (EX.end_ (.inr rfl) (res0 Tryz.results74) (fun _ hS => ⟨rfl, hS⟩))))))))
end Go.Eng
namespace Go.Eng
open Go Go.Proofs Go.Infl
theorem acc_at {acc : List Nat} {j : Nat} (h : j < acc.length) : (acc.map i64)[j]? = some (i64 (acc.getD j 0)) := by
 rw [List.getElem?_map, List.getD_eq_getElem?_getD, List.getElem?_eq_getElem h]; rfl
theorem rnMany_le {k v : Nat} (h : k < 19) (hv : v < 2 ^ rnBits k) : rnMany k v ≤ 139 := by
 rcases Nat.lt_or_ge k 16 with h1 | h1
 ·
  rw [(rn16 h1 v).2.1]; decide
 obtain ⟨e, h2, h3⟩ := rnMany_ge h1 h v
 have : 2 ^ rnBits k ≤ 2 ^ 7 := Nat.pow_le_pow_right (by decide) h3
 omega
theorem t99_o {p at_ many : Nat} {sv dv : Value} {B : List Bool} {out : List Nat} (A : HProp) (own : List Nat) (lb lo lc : Nat) (hR : ∀ {G w : World} {L : List HProp}, A ∈ L → Sat G w L → ∀ j x, own[j]? = some x → w.cell? ⟨lb, lo + j, none⟩ = some (i64 x)) (hls : own.length ≤ 1024) (h15 : ∀ x ∈ own, x ≤ 15) {G : World} {R : List HProp} {w : World} (hS : Sat G w ((Sp p sv (B) at_ dv out 2) :: A :: R)) :
 CallsR Tryz.prog 99 #[(.pointer (some ⟨p, 0, none⟩)), (i64 many), (.slice (some ⟨lb, lo, none⟩) own.length lc)] w (fun v w' => v = .slice none 0 0 ∧ Sat G w' (Sp p sv B at_ dv out 2 :: A :: R)) := by
 refine calls_in (n := 87) [(0, (.pointer (some ⟨p, 0, none⟩))), (1, (i64 many)), (2, (.slice (some ⟨lb, lo, none⟩) own.length lc))] Tryz.func99 rfl rfl hS args3 ?_
 refine CT.q (TL.val (r_asg .c) (TL.q (TL.m m3 (TL.perm p1 (TL.call (r_call ce_92 (.cons (.t m0) .nil)) (fun w hS => t92_o A own lb lo lc hR hls h15 hS) ?_)))))
 rintro _ w13 ⟨mb, fm, sz, rfl, hS⟩
 refine TW.at hS ?_
 refine TL.a m0 (TL.sub (.hd (.tl (.tl (.hd (.hd (.hd .t1)))))) (TL.q (TL.val (r_asg .c) (TL.e (CT.seq (CT.block (CT.conv (fun _ h => h.tail) ?_)))))))
 refine CT.perm p1 (CT.loop (X := Unit) (fun gx => [(8, (.slice none 0 0)), (7, (.map (some mb))), (0, (.pointer (some ⟨p, 0, none⟩))), (1, (i64 many))]) (fun gx => (Sp p sv (B) at_ dv out 2) :: A :: R) (fun gx => True) (fun gx => 0) () trivial (.refl _) (.cons m0 (.cons m1 (.cons m3 (.cons m4 .nil)))) ?_)
 rintro u -
 show CT _ _ _ [(8, (.slice none 0 0)), (7, (.map (some mb))), (0, (.pointer (some ⟨p, 0, none⟩))), (1, (i64 many))] _ _ ((Sp p sv (B) at_ dv out 2) :: A :: R)
 refine CT.seq (CT.q (TL.m m0 (TL.val (r_len Tryz.underlying42 (.t m0)) (TL.m m5 (TL.val (n_lss 0 many (.t m1) (.t m0) rfl rfl) (TL.m m0 ?_))))))
 by_cases g18 : 0 < many
 ·
  refine TL.sub (.eq m0 (congrArg Value.bool (decide_eq_true g18)) (.eq m1 (congrArg Value.bool (decide_eq_true g18)) (.cons m2 (.cons m3 (.cons m4 (.cons m5 (.cons m6 (.cons m7 (.cons m8 .nil))))))))) (TL.gv m0 (r_move (.t m7)) (TL.gcall m1 (r_call ce_47 (.cons (.t m0) .nil)) (fun w hS => t47 (r := false) (by decide) hS) ?_))
  rintro _ w20 ⟨rfl, hS⟩
  refine TW.at hS ?_
  refine TL.val (r_pickt (.t m2) (.t m0)) (TL.sub (.hd .t7) (TL.e (CT.iff_ m0 ?_)))
  exact CT.sub .t1 (CT.exit (EX.then_exit (EX.then_exit (EX.out (EX.q (TL.m m0 (TL.a m0 (TL.sub (.hd .t1) (TL.e (CT.ret (EX.perm p1 (EX.perm p1 (EX.end_ (.inl rfl) (res1 Tryz.results99 m0) (fun _ hS => ⟨rfl, hS⟩))))))))))))))
 refine TL.sub (.eq m0 (congrArg Value.bool (decide_eq_false g18)) (.eq m1 (congrArg Value.bool (decide_eq_false g18)) (.cons m2 (.cons m3 (.cons m4 (.cons m5 (.cons m6 (.cons m7 (.cons m8 .nil))))))))) (TL.gn m0 (TL.gn m0 (TL.val (r_pickf (.t m0) .c) (TL.sub (.hd .t5) (TL.e (CT.iff_ m0 ?_))))))
 exact CT.sub .t1 (CT.exit (EX.then_exit (EX.then_exit (EX.out (EX.q (TL.m m0 (TL.a m0 (TL.sub (.hd .t1) (TL.e (CT.ret (EX.perm p1 (EX.perm p1 (EX.end_ (.inl rfl) (res1 Tryz.results99 m0) (fun _ hS => ⟨rfl, hS⟩))))))))))))))
theorem t99 {p at_ nl nd : Nat} {sv dv : Value} {B : List Bool} {out : List Nat} {o : Option (List Nat × List Nat × List Bool)} (A : HProp) (own : List Nat) (lb lo lc : Nat) (hR : ∀ {G w : World} {L : List HProp}, A ∈ L → Sat G w L → ∀ j x, own[j]? = some x → w.cell? ⟨lb, lo + j, none⟩ = some (i64 x)) (hls : own.length ≤ 1024) (h15 : ∀ x ∈ own, x ≤ 15) (h19 : own.length = 19) (hfu : Full own) (hrr : RunR own nl nd [] (B.drop at_) o) (hat : at_ ≤ B.length) (hBl : B.length < 1099511627776) (hnn : nl + nd ≤ 316) {G : World} {R : List HProp} {w : World} (hS : Sat G w ((Sp p sv (B) at_ dv out ((-1))) :: A :: R)) :
 CallsR Tryz.prog 99 #[(.pointer (some ⟨p, 0, none⟩)), (i64 (nl + nd)), (.slice (some ⟨lb, lo, none⟩) own.length lc)] w (fun v w' => ∃ (kk : Nat) (acc : List Nat), kk ≤ B.length ∧ at_ ≤ kk ∧ ((o = none ∧ Sat G w' (Sp p sv B kk dv out 2 :: A :: R)) ∨ (acc.length = nl + nd ∧ RunR own nl nd acc (B.drop kk) o ∧ Sat G w' (Sp p sv B kk dv out (-1) :: slc 1 v acc.length (acc.map i64) :: A :: R)))) := by
 refine calls_in (n := 87) [(0, (.pointer (some ⟨p, 0, none⟩))), (1, (i64 (nl + nd))), (2, (.slice (some ⟨lb, lo, none⟩) own.length lc))] Tryz.func99 rfl rfl hS args3 ?_
 refine CT.q (TL.val (r_asg .c) (TL.q (TL.m m3 (TL.perm p1 (TL.call (r_call ce_92 (.cons (.t m0) .nil)) (fun w hS => t92 A own lb lo lc hR hls h15 hfu.fits hS) ?_)))))
 rintro _ w13 ⟨mb, rfl, hS⟩
 refine TW.at hS ?_
 refine TL.conv (fun _ h => bk_of_p (usedN_two hfu) h) (TL.a m0 (TL.sub (.hd (.tl (.tl (.hd (.hd (.hd .t1)))))) (TL.q (TL.val (r_asg .c) (TL.e (CT.seq (CT.block (CT.nilslc 1 ?_))))))))
 refine CT.fold (A' := (slc 1 (.slice none 0 0) (([] : List Nat).length) (([] : List Nat).map i64))) a0 (slc_eq rfl rfl) (CT.fold (A' := (Sp p sv (B) at_ dv out (cond false 2 (-1)))) a3 (Sp_eq rfl rfl) (CT.perm p1 (CT.perm p2 (CT.perm p2 (CT.perm p3 (CT.loop (X := Bool × Nat × List Nat × Value) (fun gx => [(8, gx.2.2.2), (7, (.map (some mb))), (0, (.pointer (some ⟨p, 0, none⟩))), (1, (i64 (nl + nd)))]) (fun gx => (Sp p sv (B) gx.2.1 dv out (cond gx.1 2 (-1))) :: slc 1 gx.2.2.2 ((gx.2.2.1).length) ((gx.2.2.1).map i64) :: A :: (Bk mb own) :: R) (fun gx => (gx.1 = false → RunR own nl nd gx.2.2.1 (B.drop gx.2.1) o ∧ (gx.2.2.1).length ≤ nl + nd) ∧ (gx.1 = true → o = none) ∧ gx.2.1 ≤ B.length ∧ at_ ≤ gx.2.1 ∧ (gx.2.2.1).length ≤ 1000) (fun gx => cond gx.1 0 (1 + (nl + nd - (gx.2.2.1).length))) ((false, at_, ([] : List Nat), (.slice none 0 0))) (⟨fun _ => ⟨hrr, Nat.zero_le _⟩, (fun h => by cases h), hat, Nat.le_refl _, Nat.zero_le _⟩) (.refl _) (.cons m0 (.cons m1 (.cons m3 (.cons m4 .nil)))) ?_))))))
 rintro ⟨bad, kk, acc, v⟩ ⟨hJ1, hJ2, hJ3, hJ4, hJ5⟩
 show CT _ _ _ [(8, v), (7, (.map (some mb))), (0, (.pointer (some ⟨p, 0, none⟩))), (1, (i64 (nl + nd)))] _ _ ((Sp p sv (B) kk dv out (cond bad 2 (-1))) :: slc 1 v ((acc).length) ((acc).map i64) :: A :: (Bk mb own) :: R)
 replace hJ1 : bad = false → RunR own nl nd acc (B.drop kk) o ∧ acc.length ≤ nl + nd := hJ1
 replace hJ2 : bad = true → o = none := hJ2
 replace hJ3 : kk ≤ B.length := hJ3
 replace hJ4 : at_ ≤ kk := hJ4
 replace hJ5 : acc.length ≤ 1000 := hJ5
 refine CT.seq (CT.q (TL.m m0 (TL.val (r_lens Tryz.underlying42 (.t m0) m1) (TL.m m5 (TL.val (n_lss ((acc).length) ((nl + nd)) (.t m1) (.t m0) rfl rfl) (TL.m m0 ?_))))))
 by_cases g18 : (acc).length < (nl + nd)
 ·
  refine TL.sub (.eq m0 (congrArg Value.bool (decide_eq_true g18)) (.eq m1 (congrArg Value.bool (decide_eq_true g18)) (.cons m2 (.cons m3 (.cons m4 (.cons m5 (.cons m6 (.cons m7 (.cons m8 .nil))))))))) (TL.gv m0 (r_move (.t m7)) (TL.gcall m1 (r_call ce_47 (.cons (.t m0) .nil)) (fun w hS => t47 (r := (!bad)) (by cases bad <;> rfl) hS) ?_))
  rintro _ w20 ⟨rfl, hS⟩
  refine TW.at hS ?_
  refine TL.val (r_pickt (.t m2) (.t m0)) (TL.sub (.hd .t7) (TL.e (CT.iff m0 (fun c21 => ?_) (fun c21 => ?_))))
  ·
   obtain rfl : bad = false := by simpa using c21
   obtain ⟨hI6, hI4⟩ := hJ1 rfl
   obtain ⟨x, u, rest, hbx, hok, hv, hcs⟩ := hI6.step g18
   have hlx := congrArg List.length hbx
   simp only [List.length_drop, List.length_append, symB_length, nbits_length] at hlx
   have hx18 : x < 19 := by have := hok.1; omega
   have hlk1 := hok.2.1; have hlk2 := hok.2.2
   have hdr := drop_app hbx
   rw [symB_length] at hdr
   refine CT.sub .t1 (CT.skip (EX.seq (CT.block (CT.q (TL.m m2 (TL.m m2 (TL.perm p3 (TL.perm p1 (TL.call (r_call ce_93 (.cons (.t m1) (.cons (.t m0) .nil))) (fun w hS => t93 (by omega) hfu.fits hok hbx hS) ?_)))))))))
   rintro _ w24 ⟨rfl, hS⟩
   refine TW.at hS ?_
   refine TL.a m0 (TL.sub (.hd .t3) (TL.q (TL.m m0 (TL.val (r_asg .c) (TL.a m1 (TL.sub (.hd (.hd .t1)) (TL.e (CT.cut (X := Unit) (fun gx => [(11, (i64 (rnVal acc x))), (10, (i64 (rnMany x u))), (9, (i64 x)), (8, v), (7, (.map (some mb))), (0, (.pointer (some ⟨p, 0, none⟩))), (1, (i64 (nl + nd)))]) (fun gx => (Sp p sv (B) (kk + own.getD x 0 + rnBits x) dv out ((-1))) :: slc 1 v ((acc).length) ((acc).map i64) :: A :: (Bk mb own) :: R) (fun gx => x = 16 → acc ≠ []) ?_ ?_))))))))
   ·
    refine CT.block (CT.q (TL.m m5 (TL.call (r_call ce_47 (.cons (.t m0) .nil)) (fun w hS => t47 (r := true) (by decide) hS) ?_)))
    rintro _ w28 ⟨rfl, hS⟩
    refine TW.at hS ?_
    refine TL.val (r_nott (.t m0)) (TL.a m0 (TL.sub (.hd .t3) (TL.e (CT.iff_ m0 ?_))))
    refine CT.sub .t1 (CT.q (TL.m m2 (TL.val (n_eql x 16 (.t m0) .c rfl rfl) (TL.m m0 ?_))))
    by_cases g34 : x = 16
    ·
     refine TL.sub (.eq m0 (congrArg Value.bool (decide_eq_true g34)) (.eq m1 (congrArg Value.bool (decide_eq_true g34)) (.cons m2 (.cons m3 (.cons m4 (.cons m5 (.cons m6 (.cons m7 (.cons m8 (.cons m9 .nil)))))))))) (TL.gv m0 (r_move (.t m6)) (TL.gv m1 (r_lens Tryz.underlying42 (.t m0) m2) (TL.gv m2 (n_eql ((acc).length) 0 (.t m0) .c rfl rfl) (TL.val (r_pickt (.t m3) (.t m0)) (TL.a m0 (TL.sub (.hd .t7) (TL.e (CT.ifd m0 (fun c31 => ?_) (fun c31 => ?_)))))))))
     ·
      have ho : o = none := by rcases hcs with ⟨h, _⟩ | ⟨h, _⟩ <;> first | exact h | exact absurd (List.length_eq_zero_iff.1 c31) (h g34)
      refine CT.sub .t1 (CT.q (TL.m m5 (TL.call (r_call ce_49 (.cons (.t m0) (.cons .c .nil))) (fun w hS => t49_1 hS) ?_)))
      rintro _ w40 ⟨rfl, hS⟩
      refine TW.at hS ?_
      refine TL.sub .t2 (TL.q (TL.m m3 (TL.a m0 (TL.sub (.hd .t1) (TL.e (CT.ret (EX.bret (EX.then_ret (EX.bret (EX.then_ret (EX.bret (EX.then_ret (EX.perm p3 (EX.perm p1 (EX.perm p2 (EX.conv (fun _ h => h.tail) ?_))))))))))))))))
      refine EX.perm p2 (EX.conv (fun _ h => h.tail) ?_)
      exact EX.perm p1 (EX.perm p1 (EX.end_ (.inl rfl) (res1 Tryz.results99 m0) (fun _ hS => ⟨kk + own.getD x 0, acc, by omega, by omega, .inl ⟨ho, hS⟩⟩)))
     refine CT.sub .t1 (CT.q (TL.m m2 (TL.val (n_eql x 16 (.t m0) .c rfl rfl) (TL.a m0 (TL.sub (.hd .t2) (TL.e (CT.ifd m0 (fun c42 => ?_) (fun c42 => ?_))))))))
     ·
      have hne0 : ¬ acc.length = 0 := by omega
      obtain ⟨hq1, hq2, hq3⟩ : rnMany x u = 3 + u ∧ rnBits x = 2 ∧ rnVal acc x = acc.getD (acc.length - 1) 0 := by rw [c42]; exact ⟨rfl, rfl, rfl⟩
      have hdrb : B.drop (kk + own.getD x 0) = nbits 2 u ++ rest := by rw [← hq2]; exact hdr
      have hvb : u < 2 ^ 2 := by have h := hv; rw [hq2] at h; exact h
      refine CT.sub .t1 (CT.peek m2 (by omega) ?_)
      intro e e_c e_v e_k e_l
      refine CT.held [(slc 1 v ((acc).length) ((acc).map i64))] fm ?_
      refine TH.take 0 rfl (by kernel_rfl) (by kernel_rfl) (by kernel_rfl) (NP.inBlock (NP.then_ (NP.inBlock (NP.then_ (NP.inBlock (NP.then_ NP.body)))))) (fun w h => h.only m2) (r_move (.t m5)) ?_
      refine TH.take 3 rfl (by kernel_rfl) (by kernel_rfl) (by kernel_rfl) (NP.inBlock (NP.then_ (NP.inBlock (NP.then_ (NP.inBlock (NP.then_ NP.body)))))) (fun w h => h.only m2) (r_move (.t m4)) ?_
      refine TH.take 4 rfl (by kernel_rfl) (by kernel_rfl) (by kernel_rfl) (NP.inBlock (NP.then_ (NP.inBlock (NP.then_ (NP.inBlock (NP.then_ NP.body)))))) (fun w h => h.only m2) (r_move (.t m5)) ?_
      refine TH.take 5 rfl (by kernel_rfl) (by kernel_rfl) (by kernel_rfl) (NP.inBlock (NP.then_ (NP.inBlock (NP.then_ (NP.inBlock (NP.then_ NP.body)))))) (fun w h => h.only m2) (r_lens Tryz.underlying42 (.t m0) m0) ?_
      refine TH.take 6 rfl (by kernel_rfl) (by kernel_rfl) (by kernel_rfl) (NP.inBlock (NP.then_ (NP.inBlock (NP.then_ (NP.inBlock (NP.then_ NP.body)))))) (fun w h => h.only m2) (n_sub ((acc).length) 1 9223372036854775808 (.t m0) .c rfl rfl (by omega) (by omega)) ?_
      refine TH.take 7 rfl (by kernel_rfl) (by kernel_rfl) (by kernel_rfl) (NP.inBlock (NP.then_ (NP.inBlock (NP.then_ (NP.inBlock (NP.then_ NP.body)))))) (fun w h => h.only m2) (r_ia (i := ((acc).length - 1)) (off' := ((acc).length - 1)) Tryz.underlying42 Tryz.sizeOf3 (.te m3 e_v) (.t m0) rfl (by omega) (by omega)) ?_
      refine TH.take 8 rfl (by kernel_rfl) (by kernel_rfl) (by kernel_rfl) (NP.inBlock (NP.then_ (NP.inBlock (NP.then_ (NP.inBlock (NP.then_ NP.body)))))) (fun w h => h.only m2) (r_lds (u := (i64 (acc.getD (((acc).length - 1)) 0))) Tryz.isAgg3 m0 e_v (.t m0) (acc_at (by omega))) ?_
      refine TH.oneC 1 (by kernel_rfl) rfl (r_call ce_72 (.cons (.t m6) (.cons .c .nil))) (fun w hS => t72 u 2 (rest := rest) (by omega) (by decide) hvb hdrb hS) ?_
      rintro _ w46 ⟨rfl, hS⟩
      refine ⟨hS.only m2, THB.at hS ?_⟩
      refine TH.take 2 rfl (by kernel_rfl) (by kernel_rfl) (by kernel_rfl) (NP.inBlock (NP.then_ (NP.inBlock (NP.then_ (NP.inBlock (NP.then_ NP.body)))))) (fun w h => h.only m2) (n_add 3 (u) 9223372036854775808 .c (.t m0) rfl rfl (by omega)) ?_
      refine TH.sub (.hd (.hd (.hd (.hd (.hd (.hd (.hd (.hd (.hd (.hd .t1)))))))))) ?_
      refine TH.take 9 rfl (by kernel_rfl) (by kernel_rfl) (by kernel_rfl) (NP.inBlock (NP.then_ (NP.inBlock (NP.then_ (NP.inBlock (NP.then_ NP.body)))))) (fun w h => h.only m2) (r_asg (.t m0)) ?_
      refine TH.sub (.hd (.hd (.hd (.hd (.hd (.hd (.hd (.hd (.hd (.hd .t1)))))))))) ?_
      refine TH.take 10 rfl (by kernel_rfl) (by kernel_rfl) (by kernel_rfl) (NP.inBlock (NP.then_ (NP.inBlock (NP.then_ (NP.inBlock (NP.then_ NP.body)))))) (fun w h => h.only m2) (r_asg (.t m3)) ?_
      refine TH.done (by kernel_rfl) ?_
      exact EX.sub (.hd (.hd .t9)) (EX.bnormal (EX.fold (A' := (Sp p sv (B) (kk + own.getD x 0 + rnBits x) dv out ((-1)))) a0 (Sp_eq (by omega) rfl) (EX.perm p1 (EX.perm p3 (EX.perm p3 (EX.perm p3 (EX.meet () (fun _ h => by rw [h] at hne0; exact hne0 rfl) (.refl _) (.eq m0 (congrArg (fun z : Nat => Value.int .i64 (z : Int)) (show ((acc.getD (((acc).length - 1)) 0) : Nat) = (rnVal acc x) by omega)) (.eq m1 (congrArg (fun z : Nat => Value.int .i64 (z : Int)) (show ((3 + u) : Nat) = (rnMany x u) by omega)) (.sl 2 5 rfl))))))))))
     refine CT.sub .t1 (CT.q (TL.m m2 (TL.val (n_eql x 17 (.t m0) .c rfl rfl) (TL.a m0 (TL.sub (.hd .t2) (TL.e (CT.ifd m0 (fun c54 => ?_) (fun c54 => ?_))))))))
     ·
      obtain ⟨hq1, hq2, hq3⟩ : rnMany x u = 3 + u ∧ rnBits x = 3 ∧ rnVal acc x = 0 := by rw [c54]; exact ⟨rfl, rfl, rfl⟩
      have hdrb : B.drop (kk + own.getD x 0) = nbits 3 u ++ rest := by rw [← hq2]; exact hdr
      have hvb : u < 2 ^ 3 := by have h := hv; rw [hq2] at h; exact h
      refine CT.sub .t1 (CT.region (TL.m m5 (TL.call (r_call ce_72 (.cons (.t m0) (.cons .c .nil))) (fun w hS => t72 u 3 (rest := rest) (by omega) (by decide) hvb hdrb hS) ?_)))
      rintro _ w58 ⟨rfl, hS⟩
      refine TW.at hS ?_
      exact TL.val (n_add 3 (u) 9223372036854775808 .c (.t m0) rfl rfl (by omega)) (TL.rm .h4 (TL.a m0 (TL.rm .h4 (TL.val (r_asg .c) (TL.sub (.hd (.hd .t3)) (TL.nil (EX.bnormal (EX.fold (A' := (Sp p sv (B) (kk + own.getD x 0 + rnBits x) dv out ((-1)))) a0 (Sp_eq (by omega) rfl) (EX.perm p1 (EX.perm p3 (EX.perm p3 (EX.perm p3 (EX.meet () (fun h => absurd h (by omega)) (.refl _) (.eq m0 (congrArg (fun z : Nat => Value.int .i64 (z : Int)) (show (0 : Nat) = (rnVal acc x) by omega)) (.eq m1 (congrArg (fun z : Nat => Value.int .i64 (z : Int)) (show ((3 + u) : Nat) = (rnMany x u) by omega)) (.sl 2 5 rfl))))))))))))))))
     refine CT.sub .t1 (CT.q (TL.m m2 (TL.val (n_eql x 18 (.t m0) .c rfl rfl) (TL.a m0 (TL.sub (.hd .t2) (TL.e (CT.ifd m0 (fun c60 => ?_) (fun c60 => ?_))))))))
     ·
      obtain ⟨hq1, hq2, hq3⟩ : rnMany x u = 11 + u ∧ rnBits x = 7 ∧ rnVal acc x = 0 := by rw [c60]; exact ⟨rfl, rfl, rfl⟩
      have hdrb : B.drop (kk + own.getD x 0) = nbits 7 u ++ rest := by rw [← hq2]; exact hdr
      have hvb : u < 2 ^ 7 := by have h := hv; rw [hq2] at h; exact h
      refine CT.sub .t1 (CT.region (TL.m m5 (TL.call (r_call ce_72 (.cons (.t m0) (.cons .c .nil))) (fun w hS => t72 u 7 (rest := rest) (by omega) (by decide) hvb hdrb hS) ?_)))
      rintro _ w64 ⟨rfl, hS⟩
      refine TW.at hS ?_
      exact TL.val (n_add 11 (u) 9223372036854775808 .c (.t m0) rfl rfl (by omega)) (TL.rm .h4 (TL.a m0 (TL.rm .h4 (TL.val (r_asg .c) (TL.sub (.hd (.hd .t3)) (TL.nil (EX.bnormal (EX.fold (A' := (Sp p sv (B) (kk + own.getD x 0 + rnBits x) dv out ((-1)))) a0 (Sp_eq (by omega) rfl) (EX.perm p1 (EX.perm p3 (EX.perm p3 (EX.perm p3 (EX.meet () (fun h => absurd h (by omega)) (.refl _) (.eq m0 (congrArg (fun z : Nat => Value.int .i64 (z : Int)) (show (0 : Nat) = (rnVal acc x) by omega)) (.eq m1 (congrArg (fun z : Nat => Value.int .i64 (z : Int)) (show ((11 + u) : Nat) = (rnMany x u) by omega)) (.sl 2 5 rfl))))))))))))))))
     have h16 : x < 16 := by omega
     obtain ⟨hq2, hq1, hq4⟩ := rn16 h16 u
     have hq3 := hq4 acc
     exact CT.sub .t1 (CT.skip (EX.bnormal (EX.fold (A' := (Sp p sv (B) (kk + own.getD x 0 + rnBits x) dv out ((-1)))) a0 (Sp_eq (by omega) rfl) (EX.perm p1 (EX.perm p3 (EX.perm p3 (EX.perm p3 (EX.meet () (fun h => absurd h (by omega)) (.refl _) (.eq m0 (congrArg (fun z : Nat => Value.int .i64 (z : Int)) (show (x : Nat) = (rnVal acc x) by omega)) (.eq m1 (congrArg (fun z : Nat => Value.int .i64 (z : Int)) (show (1 : Nat) = (rnMany x u) by omega)) (.sl 2 5 rfl)))))))))))
    refine TL.sub (.eq m0 (congrArg Value.bool (decide_eq_false g34)) (.eq m1 (congrArg Value.bool (decide_eq_false g34)) (.cons m2 (.cons m3 (.cons m4 (.cons m5 (.cons m6 (.cons m7 (.cons m8 (.cons m9 .nil)))))))))) (TL.gn m0 (TL.gn m0 (TL.gn m0 (TL.val (r_pickf (.t m0) .c) (TL.a m0 (TL.sub (.hd .t4) (TL.e (CT.iff_ m0 ?_))))))))
    refine CT.sub .t1 (CT.q (TL.m m2 (TL.val (n_eql x 16 (.t m0) .c rfl rfl) (TL.a m0 (TL.sub (.hd .t2) (TL.e (CT.ifd m0 (fun c42 => ?_) (fun c42 => ?_))))))))
    ·
     have hne0 : ¬ acc.length = 0 := by omega
     obtain ⟨hq1, hq2, hq3⟩ : rnMany x u = 3 + u ∧ rnBits x = 2 ∧ rnVal acc x = acc.getD (acc.length - 1) 0 := by rw [c42]; exact ⟨rfl, rfl, rfl⟩
     have hdrb : B.drop (kk + own.getD x 0) = nbits 2 u ++ rest := by rw [← hq2]; exact hdr
     have hvb : u < 2 ^ 2 := by have h := hv; rw [hq2] at h; exact h
     refine CT.sub .t1 (CT.peek m2 (by omega) ?_)
     intro e e_c e_v e_k e_l
     refine CT.held [(slc 1 v ((acc).length) ((acc).map i64))] fm ?_
     refine TH.take 0 rfl (by kernel_rfl) (by kernel_rfl) (by kernel_rfl) (NP.inBlock (NP.then_ (NP.inBlock (NP.then_ (NP.inBlock (NP.then_ NP.body)))))) (fun w h => h.only m2) (r_move (.t m5)) ?_
     refine TH.take 3 rfl (by kernel_rfl) (by kernel_rfl) (by kernel_rfl) (NP.inBlock (NP.then_ (NP.inBlock (NP.then_ (NP.inBlock (NP.then_ NP.body)))))) (fun w h => h.only m2) (r_move (.t m4)) ?_
     refine TH.take 4 rfl (by kernel_rfl) (by kernel_rfl) (by kernel_rfl) (NP.inBlock (NP.then_ (NP.inBlock (NP.then_ (NP.inBlock (NP.then_ NP.body)))))) (fun w h => h.only m2) (r_move (.t m5)) ?_
     refine TH.take 5 rfl (by kernel_rfl) (by kernel_rfl) (by kernel_rfl) (NP.inBlock (NP.then_ (NP.inBlock (NP.then_ (NP.inBlock (NP.then_ NP.body)))))) (fun w h => h.only m2) (r_lens Tryz.underlying42 (.t m0) m0) ?_
     refine TH.take 6 rfl (by kernel_rfl) (by kernel_rfl) (by kernel_rfl) (NP.inBlock (NP.then_ (NP.inBlock (NP.then_ (NP.inBlock (NP.then_ NP.body)))))) (fun w h => h.only m2) (n_sub ((acc).length) 1 9223372036854775808 (.t m0) .c rfl rfl (by omega) (by omega)) ?_
     refine TH.take 7 rfl (by kernel_rfl) (by kernel_rfl) (by kernel_rfl) (NP.inBlock (NP.then_ (NP.inBlock (NP.then_ (NP.inBlock (NP.then_ NP.body)))))) (fun w h => h.only m2) (r_ia (i := ((acc).length - 1)) (off' := ((acc).length - 1)) Tryz.underlying42 Tryz.sizeOf3 (.te m3 e_v) (.t m0) rfl (by omega) (by omega)) ?_
     refine TH.take 8 rfl (by kernel_rfl) (by kernel_rfl) (by kernel_rfl) (NP.inBlock (NP.then_ (NP.inBlock (NP.then_ (NP.inBlock (NP.then_ NP.body)))))) (fun w h => h.only m2) (r_lds (u := (i64 (acc.getD (((acc).length - 1)) 0))) Tryz.isAgg3 m0 e_v (.t m0) (acc_at (by omega))) ?_
     refine TH.oneC 1 (by kernel_rfl) rfl (r_call ce_72 (.cons (.t m6) (.cons .c .nil))) (fun w hS => t72 u 2 (rest := rest) (by omega) (by decide) hvb hdrb hS) ?_
     rintro _ w46 ⟨rfl, hS⟩
     refine ⟨hS.only m2, THB.at hS ?_⟩
     refine TH.take 2 rfl (by kernel_rfl) (by kernel_rfl) (by kernel_rfl) (NP.inBlock (NP.then_ (NP.inBlock (NP.then_ (NP.inBlock (NP.then_ NP.body)))))) (fun w h => h.only m2) (n_add 3 (u) 9223372036854775808 .c (.t m0) rfl rfl (by omega)) ?_
     refine TH.sub (.hd (.hd (.hd (.hd (.hd (.hd (.hd (.hd (.hd (.hd .t1)))))))))) ?_
     refine TH.take 9 rfl (by kernel_rfl) (by kernel_rfl) (by kernel_rfl) (NP.inBlock (NP.then_ (NP.inBlock (NP.then_ (NP.inBlock (NP.then_ NP.body)))))) (fun w h => h.only m2) (r_asg (.t m0)) ?_
     refine TH.sub (.hd (.hd (.hd (.hd (.hd (.hd (.hd (.hd (.hd (.hd .t1)))))))))) ?_
     refine TH.take 10 rfl (by kernel_rfl) (by kernel_rfl) (by kernel_rfl) (NP.inBlock (NP.then_ (NP.inBlock (NP.then_ (NP.inBlock (NP.then_ NP.body)))))) (fun w h => h.only m2) (r_asg (.t m3)) ?_
     refine TH.done (by kernel_rfl) ?_
     exact EX.sub (.hd (.hd .t9)) (EX.bnormal (EX.fold (A' := (Sp p sv (B) (kk + own.getD x 0 + rnBits x) dv out ((-1)))) a0 (Sp_eq (by omega) rfl) (EX.perm p1 (EX.perm p3 (EX.perm p3 (EX.perm p3 (EX.meet () (fun _ h => by rw [h] at hne0; exact hne0 rfl) (.refl _) (.eq m0 (congrArg (fun z : Nat => Value.int .i64 (z : Int)) (show ((acc.getD (((acc).length - 1)) 0) : Nat) = (rnVal acc x) by omega)) (.eq m1 (congrArg (fun z : Nat => Value.int .i64 (z : Int)) (show ((3 + u) : Nat) = (rnMany x u) by omega)) (.sl 2 5 rfl))))))))))
    refine CT.sub .t1 (CT.q (TL.m m2 (TL.val (n_eql x 17 (.t m0) .c rfl rfl) (TL.a m0 (TL.sub (.hd .t2) (TL.e (CT.ifd m0 (fun c54 => ?_) (fun c54 => ?_))))))))
    ·
     obtain ⟨hq1, hq2, hq3⟩ : rnMany x u = 3 + u ∧ rnBits x = 3 ∧ rnVal acc x = 0 := by rw [c54]; exact ⟨rfl, rfl, rfl⟩
     have hdrb : B.drop (kk + own.getD x 0) = nbits 3 u ++ rest := by rw [← hq2]; exact hdr
     have hvb : u < 2 ^ 3 := by have h := hv; rw [hq2] at h; exact h
     refine CT.sub .t1 (CT.region (TL.m m5 (TL.call (r_call ce_72 (.cons (.t m0) (.cons .c .nil))) (fun w hS => t72 u 3 (rest := rest) (by omega) (by decide) hvb hdrb hS) ?_)))
     rintro _ w58 ⟨rfl, hS⟩
     refine TW.at hS ?_
     exact TL.val (n_add 3 (u) 9223372036854775808 .c (.t m0) rfl rfl (by omega)) (TL.rm .h4 (TL.a m0 (TL.rm .h4 (TL.val (r_asg .c) (TL.sub (.hd (.hd .t3)) (TL.nil (EX.bnormal (EX.fold (A' := (Sp p sv (B) (kk + own.getD x 0 + rnBits x) dv out ((-1)))) a0 (Sp_eq (by omega) rfl) (EX.perm p1 (EX.perm p3 (EX.perm p3 (EX.perm p3 (EX.meet () (fun h => absurd h (by omega)) (.refl _) (.eq m0 (congrArg (fun z : Nat => Value.int .i64 (z : Int)) (show (0 : Nat) = (rnVal acc x) by omega)) (.eq m1 (congrArg (fun z : Nat => Value.int .i64 (z : Int)) (show ((3 + u) : Nat) = (rnMany x u) by omega)) (.sl 2 5 rfl))))))))))))))))
    refine CT.sub .t1 (CT.q (TL.m m2 (TL.val (n_eql x 18 (.t m0) .c rfl rfl) (TL.a m0 (TL.sub (.hd .t2) (TL.e (CT.ifd m0 (fun c60 => ?_) (fun c60 => ?_))))))))
    ·
     obtain ⟨hq1, hq2, hq3⟩ : rnMany x u = 11 + u ∧ rnBits x = 7 ∧ rnVal acc x = 0 := by rw [c60]; exact ⟨rfl, rfl, rfl⟩
     have hdrb : B.drop (kk + own.getD x 0) = nbits 7 u ++ rest := by rw [← hq2]; exact hdr
     have hvb : u < 2 ^ 7 := by have h := hv; rw [hq2] at h; exact h
     refine CT.sub .t1 (CT.region (TL.m m5 (TL.call (r_call ce_72 (.cons (.t m0) (.cons .c .nil))) (fun w hS => t72 u 7 (rest := rest) (by omega) (by decide) hvb hdrb hS) ?_)))
     rintro _ w64 ⟨rfl, hS⟩
     refine TW.at hS ?_
     exact TL.val (n_add 11 (u) 9223372036854775808 .c (.t m0) rfl rfl (by omega)) (TL.rm .h4 (TL.a m0 (TL.rm .h4 (TL.val (r_asg .c) (TL.sub (.hd (.hd .t3)) (TL.nil (EX.bnormal (EX.fold (A' := (Sp p sv (B) (kk + own.getD x 0 + rnBits x) dv out ((-1)))) a0 (Sp_eq (by omega) rfl) (EX.perm p1 (EX.perm p3 (EX.perm p3 (EX.perm p3 (EX.meet () (fun h => absurd h (by omega)) (.refl _) (.eq m0 (congrArg (fun z : Nat => Value.int .i64 (z : Int)) (show (0 : Nat) = (rnVal acc x) by omega)) (.eq m1 (congrArg (fun z : Nat => Value.int .i64 (z : Int)) (show ((11 + u) : Nat) = (rnMany x u) by omega)) (.sl 2 5 rfl))))))))))))))))
    have h16 : x < 16 := by omega
    obtain ⟨hq2, hq1, hq4⟩ := rn16 h16 u
    have hq3 := hq4 acc
    exact CT.sub .t1 (CT.skip (EX.bnormal (EX.fold (A' := (Sp p sv (B) (kk + own.getD x 0 + rnBits x) dv out ((-1)))) a0 (Sp_eq (by omega) rfl) (EX.perm p1 (EX.perm p3 (EX.perm p3 (EX.perm p3 (EX.meet () (fun h => absurd h (by omega)) (.refl _) (.eq m0 (congrArg (fun z : Nat => Value.int .i64 (z : Int)) (show (x : Nat) = (rnVal acc x) by omega)) (.eq m1 (congrArg (fun z : Nat => Value.int .i64 (z : Int)) (show (1 : Nat) = (rnMany x u) by omega)) (.sl 2 5 rfl)))))))))))
   rintro ⟨⟩ hne
   show CT _ _ _ [(11, (i64 (rnVal acc x))), (10, (i64 (rnMany x u))), (9, (i64 x)), (8, v), (7, (.map (some mb))), (0, (.pointer (some ⟨p, 0, none⟩))), (1, (i64 (nl + nd)))] _ _ ((Sp p sv (B) (kk + own.getD x 0 + rnBits x) dv out ((-1))) :: slc 1 v ((acc).length) ((acc).map i64) :: A :: (Bk mb own) :: R)
   replace hne : x = 16 → acc ≠ [] := hne
   have hrl := rnExp_length acc x u
   have hrm : rnMany x u ≤ 139 := rnMany_le hx18 hv
   have hmp := rnMany_pos x u
   have hcs2 : (o = none ∧ nl + nd < (rnExp acc x u).length) ∨ ((rnExp acc x u).length ≤ nl + nd ∧ RunR own nl nd (rnExp acc x u) rest o) := by rcases hcs with ⟨_, h1, h2⟩ | ⟨_, h⟩ <;> first | exact absurd h2 (hne h1) | exact h
   have hdr2 := drop_app hdr
   rw [nbits_length] at hdr2
   refine CT.cut (X := Bool) (fun gx => [(11, (i64 (rnVal acc x))), (10, (i64 (rnMany x u))), (9, (i64 x)), (8, v), (7, (.map (some mb))), (0, (.pointer (some ⟨p, 0, none⟩))), (1, (i64 (nl + nd)))]) (fun gx => (Sp p sv (B) (kk + own.getD x 0 + rnBits x) dv out (cond gx 2 (-1))) :: slc 1 v ((acc).length) ((acc).map i64) :: A :: (Bk mb own) :: R) (fun gx => (gx = false → RunR own nl nd (rnExp acc x u) rest o ∧ (rnExp acc x u).length ≤ nl + nd) ∧ (gx = true → o = none)) ?_ ?_
   ·
    refine CT.q (TL.m m5 (TL.call (r_call ce_47 (.cons (.t m0) .nil)) (fun w hS => t47 (r := true) (by decide) hS) ?_))
    rintro _ w67 ⟨rfl, hS⟩
    refine TW.at hS ?_
    refine TL.m m0 (TL.gv m0 (r_move (.t m6)) (TL.gv m1 (r_lens Tryz.underlying42 (.t m0) m1) (TL.gv m2 (r_move (.t m6)) (TL.gv m3 (n_add ((acc).length) ((rnMany x u)) 9223372036854775808 (.t m1) (.t m0) rfl rfl (by omega)) (TL.gv m4 (r_move (.t m13)) (TL.gv m5 (n_gtr (((acc).length + (rnMany x u))) ((nl + nd)) (.t m1) (.t m0) rfl rfl) (TL.val (r_pickt (.t m6) (.t m0)) (TL.sub (.hd .t9) (TL.e (CT.ifd m0 (fun c75 => ?_) (fun c75 => ?_)))))))))))
    ·
     have ho : o = none := by rcases hcs2 with ⟨h, _⟩ | ⟨h, _⟩ <;> first | exact h | omega
     refine CT.sub .t1 (CT.region (TL.m m5 (TL.call (r_call ce_49 (.cons (.t m0) (.cons .c .nil))) (fun w hS => t49_1 hS) ?_)))
     rintro _ w77 ⟨rfl, hS⟩
     refine TW.at hS ?_
     exact TL.sub .t2 (TL.nil (EX.fold (A' := (Sp p sv (B) (kk + own.getD x 0 + rnBits x) dv out (cond true 2 (-1)))) a0 (Sp_eq (by omega) rfl) (EX.meet true (⟨(fun h => by cases h), fun _ => ho⟩) (.refl _) (.sl 0 7 rfl))))
    have hcs3 : RunR own nl nd (rnExp acc x u) rest o ∧ (rnExp acc x u).length ≤ nl + nd := by rcases hcs2 with ⟨_, h⟩ | ⟨h1, h⟩ <;> first | exact ⟨h, h1⟩ | omega
    exact CT.sub .t1 (CT.skip (EX.fold (A' := (Sp p sv (B) (kk + own.getD x 0 + rnBits x) dv out (cond false 2 (-1)))) a0 (Sp_eq (by omega) rfl) (EX.meet false (⟨fun _ => hcs3, (fun h => by cases h)⟩) (.refl _) (.sl 0 7 rfl))))
   rintro b2 ⟨hb1, hb2⟩
   show CT _ _ _ [(11, (i64 (rnVal acc x))), (10, (i64 (rnMany x u))), (9, (i64 x)), (8, v), (7, (.map (some mb))), (0, (.pointer (some ⟨p, 0, none⟩))), (1, (i64 (nl + nd)))] _ _ ((Sp p sv (B) (kk + own.getD x 0 + rnBits x) dv out (cond b2 2 (-1))) :: slc 1 v ((acc).length) ((acc).map i64) :: A :: (Bk mb own) :: R)
   refine CT.q (TL.m m1 (TL.val (r_move .c) (TL.e (CT.block (CT.fold (A' := (slc 1 v ((acc ++ List.replicate 0 (rnVal acc x)).length) ((acc ++ List.replicate 0 (rnVal acc x)).map i64))) a1 (slc_eq (by rw [List.replicate_zero, List.append_nil]) (by rw [List.replicate_zero, List.append_nil])) (CT.loop (X := Nat × Value) (fun gx => [(79, (i64 gx.1)), (8, gx.2), (78, (i64 (rnMany x u))), (11, (i64 (rnVal acc x))), (7, (.map (some mb))), (0, (.pointer (some ⟨p, 0, none⟩))), (1, (i64 (nl + nd)))]) (fun gx => (Sp p sv (B) (kk + own.getD x 0 + rnBits x) dv out (cond b2 2 (-1))) :: slc 1 gx.2 ((acc ++ List.replicate gx.1 (rnVal acc x)).length) ((acc ++ List.replicate gx.1 (rnVal acc x)).map i64) :: A :: (Bk mb own) :: R) (fun gx => gx.1 ≤ rnMany x u) (fun gx => rnMany x u - gx.1) ((0, v)) (Nat.zero_le _) (.refl _) (.cons m0 (.cons m5 (.cons m1 (.cons m2 (.sl 6 3 rfl))))) ?_))))))
   rintro ⟨c, v2⟩ hL
   show CT _ _ _ [(79, (i64 c)), (8, v2), (78, (i64 (rnMany x u))), (11, (i64 (rnVal acc x))), (7, (.map (some mb))), (0, (.pointer (some ⟨p, 0, none⟩))), (1, (i64 (nl + nd)))] _ _ ((Sp p sv (B) (kk + own.getD x 0 + rnBits x) dv out (cond b2 2 (-1))) :: slc 1 v2 ((acc ++ List.replicate c (rnVal acc x)).length) ((acc ++ List.replicate c (rnVal acc x)).map i64) :: A :: (Bk mb own) :: R)
   replace hL : c ≤ rnMany x u := hL
   have hrc : (acc ++ List.replicate c (rnVal acc x)).length = acc.length + c := by rw [List.length_append, List.length_replicate]
   refine CT.q (TL.val (n_lss c ((rnMany x u)) (.t m0) (.t m2) rfl rfl) (TL.e (CT.seq (CT.ifd m0 (fun c80 => ?_) (fun c80 => ?_)))))
   ·
    refine CT.sub .t1 (CT.skip (EX.seq (CT.seq (CT.block (CT.region (TL.m m1 (TL.m m4 (TL.w (r_buildSlice (k := 1) (e := 3) (cs := #[(i64 (rnVal acc x))]) (F := lst [(i64 (rnVal acc x))]) (.cons (.t m0) .nil) (fun _ => by kernel_rfl) rfl lst_ok) ?_))))))))
    rintro _ w83 ⟨b83, rfl, hS⟩
    refine TW.at hS ?_
    refine TL.perm p2 (TL.w (r_append (j := 1) (k := (acc ++ List.replicate c (rnVal acc x)).length) (ds := [(i64 (rnVal acc x))]) el_42 Tryz.underlying42 (.t m2) (.t m0) ⟨_, _, rfl⟩ (rdsl m1 rfl rfl) ones1 (by omega) (by omega)) ?_)
    rintro v84 w84 hS
    have ho84 := hS.slc_one
    refine TW.at hS ?_
    refine TL.fold (A' := (slc 1 v84 ((acc ++ List.replicate (c + 1) (rnVal acc x)).length) ((acc ++ List.replicate (c + 1) (rnVal acc x)).map i64))) a0 (slc_eq (by simp only [List.length_append, List.length_replicate]; omega) (by rw [show acc ++ List.replicate (c + 1) (rnVal acc x) = (acc ++ List.replicate c (rnVal acc x)) ++ [rnVal acc x] by rw [List.replicate_succ', List.append_assoc]]; exact (List.map_append (f := i64) (l₂ := [rnVal acc x])).symm)) ?_
    refine TL.rm .h5 (TL.a m0 (TL.sub (.hd .t4) (TL.nil (EX.bnormal (EX.seq (CT.region (TL.val (n_add c 1 9223372036854775808 (.t m1) .c rfl rfl (by omega)) (TL.rm .h2 (TL.m m0 (TL.sub (.hd .t1) (TL.nil (EX.perm p1 (EX.conv (fun _ h => h.tail) ?_)))))))))))))
    exact EX.perm p3 (EX.perm p3 (EX.perm p2 (EX.perm p3 (EX.again ((c + 1, v84)) (by show c + 1 ≤ rnMany x u; omega) (by show rnMany x u - (c + 1) < rnMany x u - c; omega) (.refl _) (.eq m0 (congrArg (fun z : Nat => Value.int .i64 (z : Int)) (show ((c + 1) : Nat) = c + 1 by omega)) (.sl 1 6 rfl))))))
   have hce : c = rnMany x u := by omega
   exact CT.sub .t1 (CT.exit (EX.then_exit (EX.then_exit (EX.out (EX.bnormal (EX.fold (A' := (slc 1 v2 ((rnExp acc x u).length) ((rnExp acc x u).map i64))) a1 (slc_eq (by rw [hce]; rfl) (by rw [hce]; rfl)) (EX.again ((b2, kk + own.getD x 0 + rnBits x, rnExp acc x u, v2)) (⟨(fun h => by show RunR own nl nd (rnExp acc x u) (B.drop (kk + own.getD x 0 + rnBits x)) o ∧ (rnExp acc x u).length ≤ nl + nd; rw [hdr2]; exact hb1 h), hb2, (by show kk + own.getD x 0 + rnBits x ≤ B.length; omega), (by show at_ ≤ kk + own.getD x 0 + rnBits x; omega), by show (rnExp acc x u).length ≤ 1000; omega⟩) (by show cond b2 0 (1 + (nl + nd - (rnExp acc x u).length)) < 1 + (nl + nd - acc.length); cases b2 <;> simp <;> omega) (.refl _) (.cons m1 (.sl 4 3 rfl)))))))))
  obtain rfl : bad = true := by simpa using c21
  refine CT.sub .t1 (CT.exit (EX.then_exit (EX.then_exit (EX.out (EX.q (TL.m m0 (TL.a m0 (TL.sub (.hd .t1) (TL.e (CT.ret (EX.perm p2 (EX.perm p2 (EX.perm p2 (EX.perm p3 (EX.conv (fun _ h => h.tail) ?_)))))))))))))))
  exact EX.perm p2 (EX.perm p2 (EX.perm p2 (EX.end_ (.inl rfl) (res1 Tryz.results99 m0) (fun _ hS => ⟨kk, acc, hJ3, hJ4, .inl ⟨hJ2 rfl, Sat.keep1 hS⟩⟩))))
 refine TL.sub (.eq m0 (congrArg Value.bool (decide_eq_false g18)) (.eq m1 (congrArg Value.bool (decide_eq_false g18)) (.cons m2 (.cons m3 (.cons m4 (.cons m5 (.cons m6 (.cons m7 (.cons m8 .nil))))))))) (TL.gn m0 (TL.gn m0 (TL.val (r_pickf (.t m0) .c) (TL.sub (.hd .t5) (TL.e (CT.iff_ m0 ?_))))))
 refine CT.sub .t1 (CT.exit (EX.then_exit (EX.then_exit (EX.out (EX.q (TL.m m0 (TL.a m0 (TL.sub (.hd .t1) (TL.e (CT.ret (EX.perm p2 (EX.perm p2 (EX.perm p2 (EX.perm p3 (EX.conv (fun _ h => h.tail) ?_)))))))))))))))
 exact EX.perm p2 (EX.perm p2 (EX.perm p2 (EX.end_ (.inl rfl) (res1 Tryz.results99 m0) (fun _ hS => ⟨kk, acc, hJ3, hJ4, by cases bad with | true => exact .inl ⟨hJ2 rfl, Sat.keep1 hS⟩ | false => exact .inr ⟨by have := (hJ1 rfl).2; omega, (hJ1 rfl).1, hS⟩⟩))))
end Go.Eng
namespace Go.Eng
open Go Go.Proofs Go.Infl
def cbg (own : List Nat) (i : Nat) (F : Nat → Value) (x : Nat) : Value := if x ∈ ordr.take i then i64 (own.getD x 0) else F x
theorem cbg_put {own : List Nat} {i : Nat} {F : Nat → Value} (h : i < 19) {v : Nat} (hv : v = own.getD (ordr.getD i 0) 0) : upd (cbg own i F) (ordr.getD i 0) (i64 v) = cbg own (i + 1) F := by
 subst hv
 funext x
 unfold upd cbg
 rw [ordr_take h]
 by_cases e : x = ordr.getD i 0
 ·
  subst e; rw [if_pos rfl, if_pos (List.mem_append_right _ (List.mem_singleton.2 rfl))]
 rw [if_neg e]
 have : x ∈ ordr.take i ++ [ordr.getD i 0] ↔ x ∈ ordr.take i := by rw [List.mem_append, List.mem_singleton]; exact ⟨fun h => h.resolve_right e, .inl⟩
 simp only [this]
theorem cbg_nil {own : List Nat} {F : Nat → Value} : F = cbg own 0 F := by funext x; exact (if_neg (by simp)).symm
theorem flat3_lengthb {g : Nat → Nat} : ∀ {l : List Nat}, (l.flatMap (fun o => nbits 3 (g o))).length = 3 * l.length
 | [] => rfl
 | x :: l => by rw [List.flatMap_cons, List.length_append, nbits_length, flat3_lengthb (l := l), List.length_cons]; omega
theorem ord_blk {b : Nat} : ∀ m, blk b 19 (lst [.int .i64 16, .int .i64 17, .int .i64 18, .int .i64 0, .int .i64 8, .int .i64 7, .int .i64 9, .int .i64 6, .int .i64 10, .int .i64 5, .int .i64 11, .int .i64 4, .int .i64 12, .int .i64 3, .int .i64 13, .int .i64 2, .int .i64 14, .int .i64 1, .int .i64 15]) m → blk b 19 (fun j => i64 (ordr.getD j 0)) m := fun m ⟨cs, T, h1, h2, h3⟩ =>
 ⟨cs, T, h1, h2, fun i hi => by
  rw [h3 i hi]
  have e : lst [.int .i64 16, .int .i64 17, .int .i64 18, .int .i64 0, .int .i64 8, .int .i64 7, .int .i64 9, .int .i64 6, .int .i64 10, .int .i64 5, .int .i64 11, .int .i64 4, .int .i64 12, .int .i64 3, .int .i64 13, .int .i64 2, .int .i64 14, .int .i64 1, .int .i64 15] i = (ordr.map i64).getD i undef := rfl
  have hi' : i < ordr.length := hi
  show some (lst _ i) = some (i64 (ordr.getD i 0))
  rw [e, List.getD_eq_getElem?_getD, List.getD_eq_getElem?_getD, List.getElem?_map, List.getElem?_eq_getElem hi']
  rfl⟩
theorem ordr_sur : ∀ x, x < 19 → ∃ i, i < 19 ∧ ordr.getD i 0 = x := by decide
theorem cbg_rd2 {own : List Nat} {b many j : Nat} (h19 : own.length = 19) (hz : ∀ i, many ≤ i → i < 19 → own.getD (ordr.getD i 0) 0 = 0) (hj : j = many) {G w : World} {L : List HProp} (hm : blk b 19 (cbg own j (fun _ => .int .i64 0)) ∈ L) (hS : Sat G w L) : ∀ q x, own[q]? = some x → w.cell? ⟨b, 0 + q, none⟩ = some (i64 x) := fun q x hq => by
 subst hj
 have hl := (List.getElem?_eq_some_iff.1 hq).1
 have h := hS.cell hm (i := q) (by omega)
 have hg : own.getD q 0 = x := by rw [List.getD_eq_getElem?_getD, hq]; rfl
 rw [Nat.zero_add, h]
 unfold cbg
 split
 ·
  rw [hg]
 rename_i hn
 obtain ⟨i, hi, e⟩ := ordr_sur q (by omega)
 rcases Nat.lt_or_ge i j with h1 | h1
 ·
  refine absurd ?_ hn
  rw [← e, List.getD_eq_getElem?_getD, List.getElem?_eq_getElem (show i < ordr.length from hi)]
  refine List.mem_of_getElem? (i := i) ?_
  rw [List.getElem?_take, if_pos h1, List.getElem?_eq_getElem (show i < ordr.length from hi)]; rfl
 have := hz i h1 hi
 rw [e, hg] at this
 subst this; rfl
theorem all_lit {G w : World} {L : List HProp} {v : Value} {lit dist : List Nat} {e c j x : Nat} (hm : slc 1 v (lit ++ dist).length ((lit ++ dist).map i64) ∈ L) (hS : Sat G w L) (hv : v = .slice (some ⟨e, 0, none⟩) (lit ++ dist).length c) (hj : lit[j]? = some x) : w.cell? ⟨e, 0 + j, none⟩ = some (i64 x) := by
 rw [Nat.zero_add]
 refine hS.slc_cell hm hv ?_
 rw [List.getElem?_map, List.getElem?_append_left (List.getElem?_eq_some_iff.1 hj).1, hj]; rfl
theorem all_dist {G w : World} {L : List HProp} {v : Value} {lit dist : List Nat} {e c j x lo : Nat} (hl : lit.length = lo) (hm : slc 1 v (lit ++ dist).length ((lit ++ dist).map i64) ∈ L) (hS : Sat G w L) (hv : v = .slice (some ⟨e, 0, none⟩) (lit ++ dist).length c) (hj : dist[j]? = some x) : w.cell? ⟨e, lo + j, none⟩ = some (i64 x) := by
 refine hS.slc_cell hm hv ?_
 rw [List.getElem?_map, List.getElem?_append_right (by omega), hl, Nat.add_sub_cancel_left, hj]; rfl
theorem kraft_used : ∀ {ls : List Nat}, (∀ x ∈ ls, x ≤ 15) → kraft ls ≤ 16384 * usedN ls ls.length
 | [], _ => by simp [kraft]
 | l :: ls, h => by
  have ih := kraft_used (ls := ls) (fun x hx => h x (List.mem_cons_of_mem _ hx))
  have h1 := h l (List.mem_cons_self ..)
  unfold usedN at ih ⊢
  rw [List.take_length] at ih ⊢
  rw [kraft, List.countP_cons]
  by_cases h0 : l = 0
  ·
   subst h0; rw [if_pos rfl, if_neg (by decide)]; omega
  rw [if_neg h0, if_pos (by simp; omega)]
  have : 2 ^ (15 - l) ≤ 2 ^ 14 := Nat.pow_le_pow_right (by decide) (by omega)
  omega
theorem usedN_over {ls : List Nat} (h : Over ls) (h15 : ∀ x ∈ ls, x ≤ 15) : 2 ≤ usedN ls ls.length := by
 have := kraft_used h15
 have := h.kraft h15
 omega
theorem t38  {G : World} {R : List HProp} {w : World} (hS : Sat G w (R)) :
 CallsR Tryz.prog 38 #[] w (fun v w' => ∃ b : Nat, v = .slice (some ⟨b, 0, none⟩) 19 19 ∧ Sat G w' (blk b 19 (fun j => i64 (ordr.getD j 0)) :: R)) := by
 refine calls_in (n := 2) [] Tryz.func38 rfl rfl hS args0 ?_
 refine CT.q (TL.val (r_asg .c) (TL.q (TL.w (r_buildSlice (k := 19) (e := 3) (cs := #[(.int .i64 16), (.int .i64 17), (.int .i64 18), (.int .i64 0), (.int .i64 8), (.int .i64 7), (.int .i64 9), (.int .i64 6), (.int .i64 10), (.int .i64 5), (.int .i64 11), (.int .i64 4), (.int .i64 12), (.int .i64 3), (.int .i64 13), (.int .i64 2), (.int .i64 14), (.int .i64 1), (.int .i64 15)]) (F := lst [(.int .i64 16), (.int .i64 17), (.int .i64 18), (.int .i64 0), (.int .i64 8), (.int .i64 7), (.int .i64 9), (.int .i64 6), (.int .i64 10), (.int .i64 5), (.int .i64 11), (.int .i64 4), (.int .i64 12), (.int .i64 3), (.int .i64 13), (.int .i64 2), (.int .i64 14), (.int .i64 1), (.int .i64 15)]) (.cons .c (.cons .c (.cons .c (.cons .c (.cons .c (.cons .c (.cons .c (.cons .c (.cons .c (.cons .c (.cons .c (.cons .c (.cons .c (.cons .c (.cons .c (.cons .c (.cons .c (.cons .c (.cons .c .nil))))))))))))))))))) (fun _ => by kernel_rfl) rfl lst_ok) ?_)))
 rintro _ w1 ⟨b1, rfl, hS⟩
 refine TW.at hS ?_
 exact TL.rm .h1 (TL.a m0 (TL.sub (.hd .t1) (TL.e (CT.ret (EX.end_ (.inl rfl) (res1 Tryz.results38 m0) (fun _ hS => ⟨b1, rfl, hS.imp ord_blk⟩))))))
theorem t76 {p at_ dc nl nd : Nat} {sv : Value} {dp : Option Addr} {B hb bits : List Bool} {out dd own : List Nat} {DA : HProp} {fin : Bool} {hF : List Nat × Bool} {o : Option (List Nat × List Nat × List Bool)} (hDR : DRd DA (.slice dp dd.length dc) dd) (hdd : dd.length ≤ 32768) (hh : OwnHd hb own nl nd) (hH : HdrR own nl nd bits o) (he : o = none → hF = (dd ++ out, false)) (hgo : ∀ lit dist r kk, o = some (lit, dist, r) → kk + r.length = at_ + hb.length + bits.length → HTail lit dist fin kk r (dd ++ out) hF) (hd : B.drop at_ = hb ++ bits) (hBl : B.length < 1099511627776) (hol : hF.1.length ≤ dd.length + 131072) {G : World} {R : List HProp} {w : World} (hS : Sat G w ((Sp p sv (B) at_ (.slice dp dd.length dc) out ((-1))) :: DA :: R)) :
 CallsR Tryz.prog 76 #[(.pointer (some ⟨p, 0, none⟩))] w (fun v w' => v = .tuple #[] ∧ ∃ (at' : Nat) (out' : List Nat), at_ < at' ∧ at' ≤ B.length ∧ ((After fin at' (B.drop at') (dd ++ out') hF ∧ Sat G w' (Sp p sv B at' (.slice dp dd.length dc) out' (-1) :: DA :: R)) ∨ (hF = (dd ++ out', false) ∧ Sat G w' (Sp p sv B at' (.slice dp dd.length dc) out' 2 :: DA :: R)))) := by
 obtain ⟨many, h19, h7, hm4, hm19, hz, hnl1, hnl2, hnd1, hnd2, rfl⟩ := hh.bits3
 simp only [List.append_assoc] at hd
 have hd1 := drop_app hd
 rw [nbits_length] at hd1
 have hd2 := drop_app hd1
 rw [nbits_length] at hd2
 have hd3 := drop_app hd2
 rw [nbits_length] at hd3
 have hlen := congrArg List.length hd
 simp only [List.length_drop, List.length_append, nbits_length] at hlen hgo
 have hlo : ordr.length = 19 := rfl
 have hfl3 : (((ordr.take many).drop 0).flatMap (fun o => nbits 3 (own.getD o 0))).length = 3 * many := by
  rw [List.drop_zero, flat3_lengthb, List.length_take, hlo, Nat.min_eq_left hm19]
 refine calls_in (n := 95) [(0, (.pointer (some ⟨p, 0, none⟩)))] Tryz.func76 rfl rfl hS args1 ?_
 refine CT.q (TL.m m0 (TL.call (r_call ce_72 (.cons (.t m0) (.cons .c .nil))) (fun w hS => t72 (nl - 257) 5 (rest := (nbits 5 (nd - 1) ++ (nbits 4 (many - 4) ++ (((ordr.take many).drop 0).flatMap (fun o => nbits 3 (own.getD o 0)) ++ bits)))) (by omega) (by decide) (by omega) hd hS) ?_))
 rintro _ w12 ⟨rfl, hS⟩
 refine TW.at hS ?_
 refine TL.val (n_add 257 ((nl - 257)) 9223372036854775808 .c (.t m0) rfl rfl (by omega)) (TL.a m0 (TL.sub (.hd .t3) (TL.sub (.eq m0 (congrArg (fun z : Nat => Value.int .i64 (z : Int)) (show 257 + (nl - 257) = nl by omega)) (.cons m1 .nil)) (TL.q (TL.m m1 (TL.call (r_call ce_72 (.cons (.t m0) (.cons .c .nil))) (fun w hS => t72 (nd - 1) 5 (rest := (nbits 4 (many - 4) ++ (((ordr.take many).drop 0).flatMap (fun o => nbits 3 (own.getD o 0)) ++ bits))) (by omega) (by decide) (by omega) hd1 hS) ?_))))))
 rintro _ w15 ⟨rfl, hS⟩
 refine TW.at hS ?_
 refine TL.val (n_add 1 ((nd - 1)) 9223372036854775808 .c (.t m0) rfl rfl (by omega)) (TL.a m0 (TL.sub (.hd .t3) (TL.sub (.eq m0 (congrArg (fun z : Nat => Value.int .i64 (z : Int)) (show 1 + (nd - 1) = nd by omega)) (.cons m1 (.cons m2 .nil))) (TL.q (TL.m m2 (TL.call (r_call ce_72 (.cons (.t m0) (.cons .c .nil))) (fun w hS => t72 (many - 4) 4 (rest := (((ordr.take many).drop 0).flatMap (fun o => nbits 3 (own.getD o 0)) ++ bits)) (by omega) (by decide) (by omega) hd2 hS) ?_))))))
 rintro _ w18 ⟨rfl, hS⟩
 refine TW.at hS ?_
 refine TL.val (n_add 4 ((many - 4)) 9223372036854775808 .c (.t m0) rfl rfl (by omega)) (TL.a m0 (TL.sub (.hd .t3) (TL.sub (.eq m0 (congrArg (fun z : Nat => Value.int .i64 (z : Int)) (show 4 + (many - 4) = many by omega)) (.cons m1 (.cons m2 (.cons m3 .nil)))) (TL.e (CT.seq (CT.q (TL.m m3 (TL.call (r_call ce_47 (.cons (.t m0) .nil)) (fun w hS => t47 (r := true) (by decide) hS) ?_))))))))
 rintro _ w21 ⟨rfl, hS⟩
 refine TW.at hS ?_
 refine TL.m m0 (TL.gv m0 (r_move (.t m5)) (TL.gv m1 (n_gtr nl 286 (.t m0) .c rfl rfl) (TL.gv m2 (r_move (.t m0)) ?_)))
 by_cases g25 : 286 < nl
 ·
  exfalso; omega
 refine TL.sub (.eq m0 (congrArg Value.bool (decide_eq_false g25)) (.eq m1 (congrArg Value.bool (decide_eq_false g25)) (.cons m2 (.cons m3 (.cons m4 (.cons m5 (.cons m6 (.cons m7 (.cons m8 (.cons m9 .nil)))))))))) (TL.gv m0 (r_move (.t m7)) (TL.gv m1 (n_gtr nd 30 (.t m0) .c rfl rfl) (TL.gv m5 (r_pickf (.t m2) (.t m0)) (TL.val (r_pickt (.t m6) (.t m0)) (TL.sub (.hd .t9) (TL.e (CT.ifd m0 (fun c29 => ?_) (fun c29 => ?_))))))))
 ·
  exfalso; omega
 refine CT.sub .t1 (CT.skip (EX.q (TL.w (r_make (l := 19) (c := 19) Tryz.underlying42 Tryz.sizeOf3 ⟨_, Tryz.typeInfo3, rfl⟩ Tryz.zeroValue3 rfl .c .c rfl rfl (by omega) (by decide) (by omega)) ?_)))
 rintro _ w32 ⟨b32, rfl, hS⟩
 refine TW.at hS ?_
 refine TL.a m0 (TL.sub (.hd .t1) (TL.e (CT.seq (CT.q (TL.m m1 (TL.val (r_move .c) (TL.sub (.hd (.hd (.hd .t1))) (TL.e (CT.block (CT.fold (A' := (blk b32 19 (cbg own 0 (fun _ => (.int .i64 0))))) a0 (blk_eq rfl cbg_nil) (CT.fold (A' := (Sp p sv (B) (at_ + 5 + 5 + 4 + 3 * 0) (.slice dp dd.length dc) out ((-1)))) a1 (Sp_eq (by omega) rfl) (CT.perm p2 (CT.perm p2 (CT.loop (X := Nat) (fun gx => [(34, (i64 gx)), (33, (i64 many)), (5, (.slice (some ⟨b32, 0, none⟩) 19 19)), (3, (i64 nd)), (2, (i64 nl)), (0, (.pointer (some ⟨p, 0, none⟩)))]) (fun gx => (Sp p sv (B) (at_ + 5 + 5 + 4 + 3 * gx) (.slice dp dd.length dc) out ((-1))) :: DA :: blk b32 19 (cbg own gx (fun _ => (.int .i64 0))) :: R) (fun gx => gx ≤ many ∧ B.drop (at_ + 5 + 5 + 4 + 3 * gx) = ((ordr.take many).drop gx).flatMap (fun o => nbits 3 (own.getD o 0)) ++ bits) (fun gx => many - gx) 0 (⟨Nat.zero_le _, hd3⟩) (.refl _) (.sl 0 6 rfl) ?_))))))))))))))
 rintro j ⟨hJ1, hJ2⟩
 refine CT.q (TL.val (n_lss j many (.t m0) (.t m1) rfl rfl) (TL.e (CT.seq (CT.ifd m0 (fun c35 => ?_) (fun c35 => ?_)))))
 ·
  have hol := own7 h7 (ordr.getD j 0)
  have hd4 : B.drop (at_ + 5 + 5 + 4 + 3 * j) = nbits 3 (own.getD (ordr.getD j 0) 0) ++ (((ordr.take many).drop (j + 1)).flatMap (fun o => nbits 3 (own.getD o 0)) ++ bits) := by rw [hJ2, ordr_drop (g := (fun o => nbits 3 (own.getD o 0))) c35 hm19, List.append_assoc]
  have hd5 := drop_app hd4
  rw [nbits_length] at hd5
  have hl4 := congrArg List.length hd4
  rw [List.length_drop, List.length_append, nbits_length] at hl4
  refine CT.sub .t1 (CT.skip (EX.seq (CT.seq (CT.block (CT.q (TL.m m0 (TL.a m0 (TL.sub (.hd .t1) (TL.e (CT.any fm ?_))))))))))
  refine TA.take 0 rfl (by kernel_rfl) (by kernel_rfl) (by kernel_rfl) (NP.inBlock (NP.then_ (NP.then_ (NP.inBlock (NP.then_ NP.body))))) (fun G L => r_move (.t m3)) ?_
  refine TA.take 2 rfl (by kernel_rfl) (by kernel_rfl) (by kernel_rfl) (NP.inBlock (NP.then_ (NP.then_ (NP.inBlock (NP.then_ NP.body))))) (fun G L => r_move (.t m1)) ?_
  refine TA.take 5 rfl (by kernel_rfl) (by kernel_rfl) (by kernel_rfl) (NP.inBlock (NP.then_ (NP.then_ (NP.inBlock (NP.then_ NP.body))))) (fun G L => r_move (.t m8)) ?_
  refine TA.one 1 (by kernel_rfl) ?_
  refine TO.call rfl (r_call ce_38 .nil) (fun w hS => t38 hS) ?_
  rintro _ w38 ⟨ob, rfl, hS⟩
  refine TB.at hS ?_
  refine TA.take 3 rfl (by kernel_rfl) (by kernel_rfl) (by kernel_rfl) (NP.inBlock (NP.then_ (NP.then_ (NP.inBlock (NP.then_ NP.body))))) (fun G L => r_ia (i := j) (off' := j) Tryz.underlying42 Tryz.sizeOf3 (.t m0) (.t m2) rfl (by omega) (by omega)) ?_
  refine TA.two 4 6 (by kernel_rfl) ?_ ?_
  ·
   refine TO.val rfl (r_ld (v := (i64 (ordr.getD j 0))) Tryz.isAgg3 m0 (.t m0) (by omega) rfl) ?_
   refine TA.one 6 (by kernel_rfl) ?_
   refine TO.perm p1 ?_
   refine TO.call rfl (r_call ce_72 (.cons (.t m3) (.cons .c .nil))) (fun w hS => t72 (own.getD (ordr.getD j 0) 0) 3 (rest := (((ordr.take many).drop (j + 1)).flatMap (fun o => nbits 3 (own.getD o 0)) ++ bits)) (by omega) (by decide) (by omega) hd4 hS) ?_
   rintro _ w43 ⟨rfl, hS⟩
   refine TB.at hS ?_
   refine TA.take 7 rfl (by kernel_rfl) (by kernel_rfl) (by kernel_rfl) (NP.inBlock (NP.then_ (NP.then_ (NP.inBlock (NP.then_ NP.body))))) (fun G L => r_ia (i := (ordr.getD j 0)) (off' := (ordr.getD j 0)) Tryz.underlying42 Tryz.sizeOf3 (.t m6) (.t m1) rfl (ordr_lt j (by omega)) (by omega)) ?_
   refine TA.one 8 (by kernel_rfl) ?_
   refine TO.s rfl (r_st (F' := cbg own (j + 1) (fun _ => (.int .i64 0))) Tryz.sizeOf3 (cbg_put (by omega) rfl) a3 (.t m0) (.t m1) (ordr_lt j (by omega))) ?_
   refine TA.done (by kernel_rfl) ?_
   refine EX.sub .t8 (EX.bnormal (EX.seq (CT.region (TL.val (n_add j 1 9223372036854775808 (.t m1) .c rfl rfl (by omega)) (TL.rm .h2 (TL.m m0 (TL.sub (.hd .t1) (TL.nil (EX.fold (A' := (Sp p sv (B) (at_ + 5 + 5 + 4 + 3 * (j + 1)) (.slice dp dd.length dc) out ((-1)))) a0 (Sp_eq (by omega) rfl) (EX.perm p1 (EX.conv (fun _ h => h.tail) ?_)))))))))))
   exact EX.again (j + 1) (⟨by omega, by rw [show at_ + 5 + 5 + 4 + 3 * (j + 1) = at_ + 5 + 5 + 4 + 3 * j + 3 by omega]; exact hd5⟩) (by omega) (.refl _) (.eq m0 (by first | rfl | (congr 1 <;> omega)) (.sl 2 5 rfl))
  refine TO.perm p1 ?_
  refine TO.call rfl (r_call ce_72 (.cons (.t m2) (.cons .c .nil))) (fun w hS => t72 (own.getD (ordr.getD j 0) 0) 3 (rest := (((ordr.take many).drop (j + 1)).flatMap (fun o => nbits 3 (own.getD o 0)) ++ bits)) (by omega) (by decide) (by omega) hd4 hS) ?_
  rintro _ w43 ⟨rfl, hS⟩
  refine TB.at hS ?_
  refine TA.one 4 (by kernel_rfl) ?_
  refine TO.val rfl (r_ld (v := (i64 (ordr.getD j 0))) Tryz.isAgg3 m1 (.t m1) (by omega) rfl) ?_
  refine TA.take 7 rfl (by kernel_rfl) (by kernel_rfl) (by kernel_rfl) (NP.inBlock (NP.then_ (NP.then_ (NP.inBlock (NP.then_ NP.body))))) (fun G L => r_ia (i := (ordr.getD j 0)) (off' := (ordr.getD j 0)) Tryz.underlying42 Tryz.sizeOf3 (.t m6) (.t m0) rfl (ordr_lt j (by omega)) (by omega)) ?_
  refine TA.one 8 (by kernel_rfl) ?_
  refine TO.s rfl (r_st (F' := cbg own (j + 1) (fun _ => (.int .i64 0))) Tryz.sizeOf3 (cbg_put (by omega) rfl) a3 (.t m0) (.t m2) (ordr_lt j (by omega))) ?_
  refine TA.done (by kernel_rfl) ?_
  refine EX.sub .t8 (EX.bnormal (EX.seq (CT.region (TL.val (n_add j 1 9223372036854775808 (.t m1) .c rfl rfl (by omega)) (TL.rm .h2 (TL.m m0 (TL.sub (.hd .t1) (TL.nil (EX.fold (A' := (Sp p sv (B) (at_ + 5 + 5 + 4 + 3 * (j + 1)) (.slice dp dd.length dc) out ((-1)))) a0 (Sp_eq (by omega) rfl) (EX.perm p1 (EX.conv (fun _ h => h.tail) ?_)))))))))))
  exact EX.again (j + 1) (⟨by omega, by rw [show at_ + 5 + 5 + 4 + 3 * (j + 1) = at_ + 5 + 5 + 4 + 3 * j + 3 by omega]; exact hd5⟩) (by omega) (.refl _) (.eq m0 (by first | rfl | (congr 1 <;> omega)) (.sl 2 5 rfl))
 have hjm : j = many := by omega
 have hkB : at_ + 5 + 5 + 4 + 3 * j ≤ B.length := by omega
 have hdb : B.drop (at_ + 5 + 5 + 4 + 3 * j) = bits := by rw [hJ2, List.drop_of_length_le (by rw [List.length_take]; omega)]; rfl
 refine CT.sub .t1 (CT.exit (EX.then_exit (EX.then_exit (EX.out (EX.seq (CT.seq (CT.seq ?_)))))))
 rcases hH with ⟨hov, ho⟩ | ⟨hfu, hrr⟩
 ·
  replace he := he ho
  refine CT.sub (ρ' := [(34, (i64 j)), (33, (i64 many)), (5, (.slice (some ⟨b32, 0, none⟩) own.length 19)), (3, (i64 nd)), (2, (i64 nl)), (0, (.pointer (some ⟨p, 0, none⟩)))]) (.cons m0 (.cons m1 (.eq m2 (by rw [h19]) (.sl 3 3 rfl)))) (CT.region (TL.m m5 (TL.call (r_call ce_47 (.cons (.t m0) .nil)) (fun w hS => t47 (r := true) (by decide) hS) ?_)))
  rintro _ w47 ⟨rfl, hS⟩
  refine TW.at hS ?_
  refine TL.sub (.hd .t1) (TL.e (CT.ift m0 ?_))
  refine CT.sub .t1 (CT.region (TL.m m5 (TL.m m3 (TL.perm p2 (TL.perm p1 (TL.call (r_call ce_98 (.cons (.t m1) (.cons (.t m0) .nil))) (fun w hS => t98_over (blk b32 19 (cbg own j (fun _ => (.int .i64 0)))) own b32 0 19 (cbg_rd2 h19 hz hjm) (by omega) (fun x hx => Nat.le_trans (h7 x hx) (by decide)) hov hS) ?_))))))
  rintro _ w50 ⟨rfl, hS⟩
  refine TW.at hS ?_
  refine TL.sub .t3 (TL.q (TL.m m5 (TL.m m5 (TL.m m5 (TL.val (n_add nl nd 9223372036854775808 (.t m1) (.t m0) rfl rfl (by omega)) (TL.m m6 (TL.perm p1 (TL.perm p1 (TL.call (r_call ce_99 (.cons (.t m4) (.cons (.t m1) (.cons (.t m0) .nil)))) (fun w hS => t99_o (blk b32 19 (cbg own j (fun _ => (.int .i64 0)))) own b32 0 19 (cbg_rd2 h19 hz hjm) (by omega) (fun x hx => Nat.le_trans (h7 x hx) (by decide)) hS) ?_)))))))))
  rintro _ w56 ⟨rfl, hS⟩
  refine TW.at hS ?_
  refine TL.a m0 (TL.sub (.hd .t6) (TL.e (CT.seq (CT.q (TL.m m6 (TL.call (r_call ce_47 (.cons (.t m0) .nil)) (fun w hS => t47 (r := false) (by decide) hS) ?_))))))
  rintro _ w58 ⟨rfl, hS⟩
  refine TW.at hS ?_
  refine TL.val (r_notf (.t m0)) (TL.sub (.hd .t2) (TL.e (CT.ift m0 ?_)))
  refine CT.sub .t1 (CT.ret (EX.then_ret (EX.perm p2 (EX.perm p1 (EX.perm p2 (EX.conv (fun _ h => h.tail) ?_))))))
  exact EX.perm p1 (EX.perm p1 (EX.end_ (.inl rfl) (res0 Tryz.results76) (fun _ hS => ⟨rfl, at_ + 5 + 5 + 4 + 3 * j, out, by omega, by omega, .inr ⟨he, hS⟩⟩)))
 refine CT.sub (ρ' := [(34, (i64 j)), (33, (i64 many)), (5, (.slice (some ⟨b32, 0, none⟩) own.length 19)), (3, (i64 nd)), (2, (i64 nl)), (0, (.pointer (some ⟨p, 0, none⟩)))]) (.cons m0 (.cons m1 (.eq m2 (by rw [h19]) (.sl 3 3 rfl)))) (CT.region (TL.m m5 (TL.call (r_call ce_47 (.cons (.t m0) .nil)) (fun w hS => t47 (r := true) (by decide) hS) ?_)))
 rintro _ w47 ⟨rfl, hS⟩
 refine TW.at hS ?_
 refine TL.sub (.hd .t1) (TL.e (CT.ift m0 ?_))
 refine CT.sub .t1 (CT.region (TL.m m5 (TL.m m3 (TL.perm p2 (TL.perm p1 (TL.call (r_call ce_98 (.cons (.t m1) (.cons (.t m0) .nil))) (fun w hS => t98_full (blk b32 19 (cbg own j (fun _ => (.int .i64 0)))) own b32 0 19 (cbg_rd2 h19 hz hjm) (by omega) (fun x hx => Nat.le_trans (h7 x hx) (by decide)) hfu hS) ?_))))))
 rintro _ w50 ⟨rfl, hS⟩
 refine TW.at hS ?_
 refine TL.sub .t3 (TL.q (TL.m m5 (TL.m m5 (TL.m m5 (TL.val (n_add nl nd 9223372036854775808 (.t m1) (.t m0) rfl rfl (by omega)) (TL.m m6 (TL.perm p1 (TL.perm p1 (TL.call (r_call ce_99 (.cons (.t m4) (.cons (.t m1) (.cons (.t m0) .nil)))) (fun w hS => t99 (blk b32 19 (cbg own j (fun _ => (.int .i64 0)))) own b32 0 19 (cbg_rd2 h19 hz hjm) (by omega) (fun x hx => Nat.le_trans (h7 x hx) (by decide)) h19 hfu (by rw [hdb]; exact hrr) hkB hBl (by omega) hS) ?_)))))))))
 rintro v1 w56 ⟨kk, acc, hk1, hk2, ⟨ho, hS⟩ | ⟨hacc, hrr2, hS⟩⟩
 ·
  replace he := he ho
  refine TW.at hS ?_
  refine TL.a m0 (TL.sub (.hd .t6) (TL.e (CT.seq (CT.q (TL.m m6 (TL.call (r_call ce_47 (.cons (.t m0) .nil)) (fun w hS => t47 (r := false) (by decide) hS) ?_))))))
  rintro _ w58 ⟨rfl, hS⟩
  refine TW.at hS ?_
  refine TL.val (r_notf (.t m0)) (TL.sub (.hd .t2) (TL.e (CT.ift m0 ?_)))
  refine CT.sub .t1 (CT.ret (EX.then_ret (EX.perm p2 (EX.perm p1 (EX.perm p2 (EX.conv (fun _ h => h.tail) ?_))))))
  exact EX.perm p1 (EX.perm p1 (EX.end_ (.inl rfl) (res0 Tryz.results76) (fun _ hS => ⟨rfl, kk, out, by omega, by omega, .inr ⟨he, hS⟩⟩)))
 refine TW.at hS ?_
 refine TL.a m0 (TL.sub (.hd .t6) (TL.e (CT.seq (CT.q (TL.m m6 (TL.call (r_call ce_47 (.cons (.t m0) .nil)) (fun w hS => t47 (r := true) (by decide) hS) ?_))))))
 rintro _ w58 ⟨rfl, hS⟩
 refine TW.at hS ?_
 refine TL.val (r_nott (.t m0)) (TL.sub (.hd .t2) (TL.e (CT.iff_ m0 ?_)))
 refine CT.sub .t1 (CT.skip (EX.seq (CT.seq ?_)))
 obtain ⟨lit, dist, hacc2, hl1, hl2, h15, h256, hfin⟩ := hrr2.fin hacc
 refine CT.fold (A' := (slc 1 v1 ((lit ++ dist).length) ((lit ++ dist).map i64))) a1 (slc_eq (by rw [hacc2]) (by rw [hacc2])) ?_
 have hll : (lit ++ dist).length = nl + nd := by rw [List.length_append]; omega
 have h15l : ∀ x ∈ lit, x ≤ 15 := fun x hx => h15 x (List.mem_append_left _ hx)
 have h15d : ∀ x ∈ dist, x ≤ 15 := fun x hx => h15 x (List.mem_append_right _ hx)
 have hx256 := h256.1
 refine CT.peek m1 (by rw [hll]; omega) ?_
 intro e e_c e_v e_k e_l
 have hRl : ∀ {G w : World} {L : List HProp}, (slc 1 v1 ((lit ++ dist).length) ((lit ++ dist).map i64)) ∈ L → Sat G w L → ∀ j x, lit[j]? = some x → w.cell? ⟨e, 0 + j, none⟩ = some (i64 x) := fun hm hS j x hj => all_lit hm hS e_v hj
 have hRd : ∀ {G w : World} {L : List HProp}, (slc 1 v1 ((lit ++ dist).length) ((lit ++ dist).map i64)) ∈ L → Sat G w L → ∀ j x, dist[j]? = some x → w.cell? ⟨e, nl + j, none⟩ = some (i64 x) := fun hm hS j x hj => all_dist hl1 hm hS e_v hj
 refine CT.still fm (by kernel_rfl) ?_
 refine TS.val (r_move (.t m0)) ?_
 refine TS.val (r_move (.t m6)) ?_
 refine TS.val (r_slice (off' := 0) (m := nl) (c' := e_c) Tryz.underlying42 Tryz.sizeOf3 (.te m1 e_v) .no (.so (j := nl) (.t m0) rfl) (by first | (show 0 ≤ nl; omega) | (show nl ≤ (lit ++ dist).length; rw [hll]; omega) | (show nl ≤ e_c; omega)) (by first | (show 0 ≤ nl; omega) | (show nl ≤ (lit ++ dist).length; rw [hll]; omega) | (show nl ≤ e_c; omega)) (by simp) (by simp) (by simp)) ?_
 refine TS.sub (ρ' := [(62, (.slice (some ⟨e, 0, none⟩) lit.length e_c)), (61, (i64 nl)), (60, v1), (7, v1), (34, (i64 j)), (33, (i64 many)), (5, (.slice (some ⟨b32, 0, none⟩) own.length 19)), (3, (i64 nd)), (2, (i64 nl)), (0, (.pointer (some ⟨p, 0, none⟩)))]) (.eq m0 (by rw [hl1]) (.sl 1 9 rfl)) ?_
 refine TS.val (r_move (.t m3)) ?_
 refine TS.val (r_move (.t m9)) ?_
 refine TS.val (r_slice (off' := nl) (m := (lit ++ dist).length - nl) (c' := e_c - nl) Tryz.underlying42 Tryz.sizeOf3 (.te m1 e_v) (.so (j := nl) (.t m0) rfl) .no (by first | (show nl ≤ (lit ++ dist).length; rw [hll]; omega) | (show (lit ++ dist).length ≤ e_c; omega)) (by first | (show nl ≤ (lit ++ dist).length; rw [hll]; omega) | (show (lit ++ dist).length ≤ e_c; omega)) (by show (if e_c = nl then 0 else 0 + nl * 1) = nl; rw [if_neg (by rw [hll] at e_k; omega)]; omega) (by simp) (by simp)) ?_
 refine TS.sub (ρ' := [(65, (.slice (some ⟨e, nl, none⟩) dist.length ((e_c - nl)))), (64, (i64 nl)), (63, v1), (62, (.slice (some ⟨e, 0, none⟩) lit.length e_c)), (61, (i64 nl)), (60, v1), (7, v1), (34, (i64 j)), (33, (i64 many)), (5, (.slice (some ⟨b32, 0, none⟩) own.length 19)), (3, (i64 nd)), (2, (i64 nl)), (0, (.pointer (some ⟨p, 0, none⟩)))]) (.eq m0 (congrArg (fun z : Nat => Value.slice (some ⟨e, nl, none⟩) z _) (show (lit ++ dist).length - nl = dist.length by omega)) (.sl 1 12 rfl)) ?_
 refine TS.val (r_asg (.t m3)) ?_
 refine TS.val (r_asg (.t m1)) ?_
 refine TS.nil ?_
 refine TL.sub (.hd (.hd .t7)) (TL.e (CT.seq (CT.q (TL.m m1 (TL.val (r_ia (i := 256) (off' := 256) Tryz.underlying42 Tryz.sizeOf3 (.t m0) .c rfl (by omega) rfl) (TL.val (r_ldc (v := (i64 (lit.getD 256 0))) Tryz.isAgg3 (.t m0) (fun w hS => hRl m1 hS 256 _ (lens_get h256))) (TL.val (n_eql ((lit.getD 256 0)) 0 (.t m0) .c rfl rfl) (TL.sub (.hd .t3) (TL.e (CT.ifd m0 (fun c69 => ?_) (fun c69 => ?_)))))))))))
 ·
  exact absurd h256.2.1 (by omega)
 refine CT.sub .t1 (CT.skip (EX.seq (CT.seq ?_)))
 rcases hfin with ⟨ho, hfl, hfd | hz0⟩ | ⟨ho, hovl | ⟨hfl, hovd⟩⟩
 ·
  have hus := usedN_two hfd
  have hht := hgo _ _ _ kk ho (by rw [List.length_drop]; omega)
  refine CT.region (TL.m m7 (TL.m m2 (TL.perm p1 (TL.perm p1 (TL.call (r_call ce_98 (.cons (.t m1) (.cons (.t m0) .nil))) (fun w hS => t98_full (slc 1 v1 ((lit ++ dist).length) ((lit ++ dist).map i64)) lit e 0 e_c hRl (by omega) h15l hfl hS) ?_)))))
  rintro _ w74 ⟨rfl, hS⟩
  refine TW.at hS ?_
  refine TL.sub .t3 (TL.e (CT.seq (CT.q (TL.m m0 (TL.perm p1 (TL.call (r_call ce_95 (.cons (.t m0) .nil)) (fun w hS => t95 (slc 1 v1 ((lit ++ dist).length) ((lit ++ dist).map i64)) dist e nl (e_c - nl) hRd (by omega) h15d hS) ?_))))))
  rintro _ w76 ⟨rfl, hS⟩
  refine TW.at hS ?_
  refine TL.a m0 (TL.sub (.hd .t2) (TL.e (CT.cut (X := Bool) (fun gx => [(87, (.bool gx)), (9, (.slice (some ⟨e, nl, none⟩) dist.length ((e_c - nl)))), (8, (.slice (some ⟨e, 0, none⟩) lit.length e_c)), (34, (i64 j)), (33, (i64 many)), (5, (.slice (some ⟨b32, 0, none⟩) own.length 19)), (3, (i64 nd)), (2, (i64 nl)), (0, (.pointer (some ⟨p, 0, none⟩)))]) (fun gx => (Sp p sv (B) kk (.slice dp dd.length dc) out ((-1))) :: DA :: slc 1 v1 ((lit ++ dist).length) ((lit ++ dist).map i64) :: R) (fun gx => gx = true) ?_ ?_)))
  ·
   refine CT.region (TL.m m0 (TL.val (n_gtr ((usedN dist dist.length)) 1 (.t m0) .c rfl rfl) (TL.m m0 ?_)))
   by_cases g79 : 1 < (usedN dist dist.length)
   ·
    refine TL.sub (.eq m0 (congrArg Value.bool (decide_eq_true g79)) (.eq m1 (congrArg Value.bool (decide_eq_true g79)) (.cons m2 (.cons m3 (.cons m4 (.cons m5 (.cons m6 (.cons m7 (.cons m8 (.cons m9 (.cons m10 (.cons m11 .nil)))))))))))) (TL.gn m0 (TL.gn m0 (TL.gnu m0 ?_)))
    refine TL.gu m0 ?_
    refine TL.gu m1 ?_
    refine TL.gu m2 ?_
    refine TL.gn m4 (TL.val (r_pickt (.t m4) .c) (TL.sub (.hd .t8) (TL.nil (EX.perm p2 (EX.conv (fun _ h => h.tail) ?_)))))
    exact EX.perm p2 (EX.perm p2 (EX.meet true (by first | rfl | (exfalso; omega)) (.refl _) (.sl 0 9 rfl)))
   refine TL.sub (.eq m0 (congrArg Value.bool (decide_eq_false g79)) (.eq m1 (congrArg Value.bool (decide_eq_false g79)) (.cons m2 (.cons m3 (.cons m4 (.cons m5 (.cons m6 (.cons m7 (.cons m8 (.cons m9 (.cons m10 (.cons m11 .nil)))))))))))) (TL.gv m0 (r_move (.t m3)) (TL.gv m1 (n_eql ((usedN dist dist.length)) 1 (.t m0) .c rfl rfl) (TL.gv m2 (r_move (.t m0)) ?_)))
   by_cases g82 : (usedN dist dist.length) = 1
   ·
    refine TL.sub (.eq m0 (congrArg Value.bool (decide_eq_true g82)) (.eq m1 (congrArg Value.bool (decide_eq_true g82)) (.cons m2 (.cons m3 (.cons m4 (.cons m5 (.cons m6 (.cons m7 (.cons m8 (.cons m9 (.cons m10 (.cons m11 (.cons m12 (.cons m13 (.cons m14 .nil))))))))))))))) (TL.gv m0 (r_move (.t m7)) (TL.gcall m1 (r_call ce_62 (.cons (.t m0) .nil)) (fun w hS => t62 (slc 1 v1 ((lit ++ dist).length) ((lit ++ dist).map i64)) dist e nl (e_c - nl) hRd (by omega) h15d hS) ?_))
    rintro _ w84 ⟨rfl, hS⟩
    refine TW.at hS ?_
    refine TL.gv m2 (r_neq (.t m0) .c) (TL.gv m6 (r_pickt (.t m3) (.t m0)) (TL.val (r_pickf (.t m7) (.t m0)) (TL.sub (.hd .t11) (TL.nil (EX.perm p2 (EX.conv (fun _ h => h.tail) ?_))))))
    exact EX.perm p2 (EX.perm p2 (EX.meet (decide (¬ ((32768 - ((kraft dist : Nat) : Int))) = 16384)) (by first | rfl | (exfalso; omega)) (.refl _) (.eq m0 (by first | rfl | (congr 1 <;> omega)) (.sl 1 8 rfl))))
   refine TL.sub (.eq m0 (congrArg Value.bool (decide_eq_false g82)) (.eq m1 (congrArg Value.bool (decide_eq_false g82)) (.cons m2 (.cons m3 (.cons m4 (.cons m5 (.cons m6 (.cons m7 (.cons m8 (.cons m9 (.cons m10 (.cons m11 (.cons m12 (.cons m13 (.cons m14 .nil))))))))))))))) (TL.gn m0 (TL.gn m0 (TL.gn m0 (TL.gv m3 (r_pickf (.t m0) .c) (TL.val (r_pickf (.t m4) (.t m0)) (TL.sub (.hd .t8) (TL.nil (EX.perm p2 (EX.conv (fun _ h => h.tail) ?_)))))))))
   exact EX.perm p2 (EX.perm p2 (EX.meet false (by first | rfl | (exfalso; omega)) (.refl _) (.sl 0 9 rfl)))
  rintro bq hbq
  refine CT.iff m0 (fun c87 => ?_) (fun c87 => ?_)
  ·
   refine CT.sub .t1 (CT.region (TL.m m7 (TL.m m1 (TL.perm p2 (TL.perm p1 (TL.call (r_call ce_98 (.cons (.t m1) (.cons (.t m0) .nil))) (fun w hS => t98_full (slc 1 v1 ((lit ++ dist).length) ((lit ++ dist).map i64)) dist e nl (e_c - nl) hRd (by omega) h15d hfd hS) ?_))))))
   rintro _ w90 ⟨rfl, hS⟩
   refine TW.at hS ?_
   refine TL.sub .t3 (TL.e (CT.region (TL.m m7 (TL.m m2 (TL.m m2 (TL.perm p1 (TL.perm p2 (TL.perm p2 (TL.call (r_call ce_74 (.cons (.t m2) (.cons (.t m1) (.cons (.t m0) .nil)))) (fun w hS => t74 hDR hdd (slc 1 v1 ((lit ++ dist).length) ((lit ++ dist).map i64)) hRl hRd (by omega) (by omega) h15l h15d hfl (.inl hfd) h256 hht hk1 hBl hol hS) ?_)))))))))
   rintro _ w94 ⟨rfl, a', o', ha1, ha2, ⟨haf, hS⟩ | ⟨he, hS⟩⟩
   ·
    refine TW.at hS ?_
    refine TL.sub .t4 (TL.nil (EX.perm p1 (EX.perm p1 (EX.perm p2 (EX.conv (fun _ h => h.tail) ?_)))))
    exact EX.perm p1 (EX.perm p1 (EX.end_ (.inr rfl) (res0 Tryz.results76) (fun _ hS => ⟨rfl, a', o', by omega, ha2, .inl ⟨haf, hS⟩⟩)))
   refine TW.at hS ?_
   refine TL.sub .t4 (TL.nil (EX.perm p1 (EX.perm p1 (EX.perm p2 (EX.conv (fun _ h => h.tail) ?_)))))
   exact EX.perm p1 (EX.perm p1 (EX.end_ (.inr rfl) (res0 Tryz.results76) (fun _ hS => ⟨rfl, a', o', by omega, ha2, .inr ⟨he, hS⟩⟩)))
  exact absurd (hbq.symm.trans c87) (by decide)
 ·
  have hus := usedN_zero hz0 dist.length
  have hht := hgo _ _ _ kk ho (by rw [List.length_drop]; omega)
  refine CT.region (TL.m m7 (TL.m m2 (TL.perm p1 (TL.perm p1 (TL.call (r_call ce_98 (.cons (.t m1) (.cons (.t m0) .nil))) (fun w hS => t98_full (slc 1 v1 ((lit ++ dist).length) ((lit ++ dist).map i64)) lit e 0 e_c hRl (by omega) h15l hfl hS) ?_)))))
  rintro _ w74 ⟨rfl, hS⟩
  refine TW.at hS ?_
  refine TL.sub .t3 (TL.e (CT.seq (CT.q (TL.m m0 (TL.perm p1 (TL.call (r_call ce_95 (.cons (.t m0) .nil)) (fun w hS => t95 (slc 1 v1 ((lit ++ dist).length) ((lit ++ dist).map i64)) dist e nl (e_c - nl) hRd (by omega) h15d hS) ?_))))))
  rintro _ w76 ⟨rfl, hS⟩
  refine TW.at hS ?_
  refine TL.a m0 (TL.sub (.hd .t2) (TL.e (CT.cut (X := Bool) (fun gx => [(87, (.bool gx)), (9, (.slice (some ⟨e, nl, none⟩) dist.length ((e_c - nl)))), (8, (.slice (some ⟨e, 0, none⟩) lit.length e_c)), (34, (i64 j)), (33, (i64 many)), (5, (.slice (some ⟨b32, 0, none⟩) own.length 19)), (3, (i64 nd)), (2, (i64 nl)), (0, (.pointer (some ⟨p, 0, none⟩)))]) (fun gx => (Sp p sv (B) kk (.slice dp dd.length dc) out ((-1))) :: DA :: slc 1 v1 ((lit ++ dist).length) ((lit ++ dist).map i64) :: R) (fun gx => gx = false) ?_ ?_)))
  ·
   refine CT.region (TL.m m0 (TL.val (n_gtr ((usedN dist dist.length)) 1 (.t m0) .c rfl rfl) (TL.m m0 ?_)))
   by_cases g79 : 1 < (usedN dist dist.length)
   ·
    refine TL.sub (.eq m0 (congrArg Value.bool (decide_eq_true g79)) (.eq m1 (congrArg Value.bool (decide_eq_true g79)) (.cons m2 (.cons m3 (.cons m4 (.cons m5 (.cons m6 (.cons m7 (.cons m8 (.cons m9 (.cons m10 (.cons m11 .nil)))))))))))) (TL.gn m0 (TL.gn m0 (TL.gnu m0 ?_)))
    refine TL.gu m0 ?_
    refine TL.gu m1 ?_
    refine TL.gu m2 ?_
    refine TL.gn m4 (TL.val (r_pickt (.t m4) .c) (TL.sub (.hd .t8) (TL.nil (EX.perm p2 (EX.conv (fun _ h => h.tail) ?_)))))
    exact EX.perm p2 (EX.perm p2 (EX.meet true (by first | rfl | (exfalso; omega) | exact decide_eq_false (by omega)) (.refl _) (.sl 0 9 rfl)))
   refine TL.sub (.eq m0 (congrArg Value.bool (decide_eq_false g79)) (.eq m1 (congrArg Value.bool (decide_eq_false g79)) (.cons m2 (.cons m3 (.cons m4 (.cons m5 (.cons m6 (.cons m7 (.cons m8 (.cons m9 (.cons m10 (.cons m11 .nil)))))))))))) (TL.gv m0 (r_move (.t m3)) (TL.gv m1 (n_eql ((usedN dist dist.length)) 1 (.t m0) .c rfl rfl) (TL.gv m2 (r_move (.t m0)) ?_)))
   by_cases g82 : (usedN dist dist.length) = 1
   ·
    refine TL.sub (.eq m0 (congrArg Value.bool (decide_eq_true g82)) (.eq m1 (congrArg Value.bool (decide_eq_true g82)) (.cons m2 (.cons m3 (.cons m4 (.cons m5 (.cons m6 (.cons m7 (.cons m8 (.cons m9 (.cons m10 (.cons m11 (.cons m12 (.cons m13 (.cons m14 .nil))))))))))))))) (TL.gv m0 (r_move (.t m7)) (TL.gcall m1 (r_call ce_62 (.cons (.t m0) .nil)) (fun w hS => t62 (slc 1 v1 ((lit ++ dist).length) ((lit ++ dist).map i64)) dist e nl (e_c - nl) hRd (by omega) h15d hS) ?_))
    rintro _ w84 ⟨rfl, hS⟩
    refine TW.at hS ?_
    refine TL.gv m2 (r_neq (.t m0) .c) (TL.gv m6 (r_pickt (.t m3) (.t m0)) (TL.val (r_pickf (.t m7) (.t m0)) (TL.sub (.hd .t11) (TL.nil (EX.perm p2 (EX.conv (fun _ h => h.tail) ?_))))))
    exact EX.perm p2 (EX.perm p2 (EX.meet (decide (¬ ((32768 - ((kraft dist : Nat) : Int))) = 16384)) (by first | rfl | (exfalso; omega) | exact decide_eq_false (by omega)) (.refl _) (.eq m0 (by first | rfl | (congr 1 <;> omega)) (.sl 1 8 rfl))))
   refine TL.sub (.eq m0 (congrArg Value.bool (decide_eq_false g82)) (.eq m1 (congrArg Value.bool (decide_eq_false g82)) (.cons m2 (.cons m3 (.cons m4 (.cons m5 (.cons m6 (.cons m7 (.cons m8 (.cons m9 (.cons m10 (.cons m11 (.cons m12 (.cons m13 (.cons m14 .nil))))))))))))))) (TL.gn m0 (TL.gn m0 (TL.gn m0 (TL.gv m3 (r_pickf (.t m0) .c) (TL.val (r_pickf (.t m4) (.t m0)) (TL.sub (.hd .t8) (TL.nil (EX.perm p2 (EX.conv (fun _ h => h.tail) ?_)))))))))
   exact EX.perm p2 (EX.perm p2 (EX.meet false (by first | rfl | (exfalso; omega) | exact decide_eq_false (by omega)) (.refl _) (.sl 0 9 rfl)))
  rintro bq hbq
  refine CT.iff m0 (fun c87 => ?_) (fun c87 => ?_)
  ·
   exact absurd (c87.symm.trans hbq) (by decide)
  refine CT.sub .t1 (CT.skip (EX.seq (CT.region (TL.m m7 (TL.m m2 (TL.m m2 (TL.perm p2 (TL.perm p2 (TL.perm p2 (TL.call (r_call ce_74 (.cons (.t m2) (.cons (.t m1) (.cons (.t m0) .nil)))) (fun w hS => t74 hDR hdd (slc 1 v1 ((lit ++ dist).length) ((lit ++ dist).map i64)) hRl hRd (by omega) (by omega) h15l h15d hfl (.inr hz0) h256 hht hk1 hBl hol hS) ?_))))))))))
  rintro _ w94 ⟨rfl, a', o', ha1, ha2, ⟨haf, hS⟩ | ⟨he, hS⟩⟩
  ·
   refine TW.at hS ?_
   refine TL.sub .t4 (TL.nil (EX.perm p1 (EX.perm p1 (EX.perm p2 (EX.conv (fun _ h => h.tail) ?_)))))
   exact EX.perm p1 (EX.perm p1 (EX.end_ (.inr rfl) (res0 Tryz.results76) (fun _ hS => ⟨rfl, a', o', by omega, ha2, .inl ⟨haf, hS⟩⟩)))
  refine TW.at hS ?_
  refine TL.sub .t4 (TL.nil (EX.perm p1 (EX.perm p1 (EX.perm p2 (EX.conv (fun _ h => h.tail) ?_)))))
  exact EX.perm p1 (EX.perm p1 (EX.end_ (.inr rfl) (res0 Tryz.results76) (fun _ hS => ⟨rfl, a', o', by omega, ha2, .inr ⟨he, hS⟩⟩)))
 ·
  replace he := he ho
  refine CT.region (TL.m m7 (TL.m m2 (TL.perm p1 (TL.perm p1 (TL.call (r_call ce_98 (.cons (.t m1) (.cons (.t m0) .nil))) (fun w hS => t98_over (slc 1 v1 ((lit ++ dist).length) ((lit ++ dist).map i64)) lit e 0 e_c hRl (by omega) h15l hovl hS) ?_)))))
  rintro _ w74 ⟨rfl, hS⟩
  refine TW.at hS ?_
  refine TL.sub .t3 (TL.e (CT.seq (CT.q (TL.m m0 (TL.perm p1 (TL.call (r_call ce_95 (.cons (.t m0) .nil)) (fun w hS => t95 (slc 1 v1 ((lit ++ dist).length) ((lit ++ dist).map i64)) dist e nl (e_c - nl) hRd (by omega) h15d hS) ?_))))))
  rintro _ w76 ⟨rfl, hS⟩
  refine TW.at hS ?_
  refine TL.a m0 (TL.sub (.hd .t2) (TL.e (CT.cut (X := Bool) (fun gx => [(87, (.bool gx)), (9, (.slice (some ⟨e, nl, none⟩) dist.length ((e_c - nl)))), (8, (.slice (some ⟨e, 0, none⟩) lit.length e_c)), (34, (i64 j)), (33, (i64 many)), (5, (.slice (some ⟨b32, 0, none⟩) own.length 19)), (3, (i64 nd)), (2, (i64 nl)), (0, (.pointer (some ⟨p, 0, none⟩)))]) (fun gx => (Sp p sv (B) kk (.slice dp dd.length dc) out 2) :: DA :: slc 1 v1 ((lit ++ dist).length) ((lit ++ dist).map i64) :: R) (fun gx => True) ?_ ?_)))
  ·
   refine CT.region (TL.m m0 (TL.val (n_gtr ((usedN dist dist.length)) 1 (.t m0) .c rfl rfl) (TL.m m0 ?_)))
   by_cases g79 : 1 < (usedN dist dist.length)
   ·
    refine TL.sub (.eq m0 (congrArg Value.bool (decide_eq_true g79)) (.eq m1 (congrArg Value.bool (decide_eq_true g79)) (.cons m2 (.cons m3 (.cons m4 (.cons m5 (.cons m6 (.cons m7 (.cons m8 (.cons m9 (.cons m10 (.cons m11 .nil)))))))))))) (TL.gn m0 (TL.gn m0 (TL.gnu m0 ?_)))
    refine TL.gu m0 ?_
    refine TL.gu m1 ?_
    refine TL.gu m2 ?_
    refine TL.gn m4 (TL.val (r_pickt (.t m4) .c) (TL.sub (.hd .t8) (TL.nil (EX.perm p2 (EX.conv (fun _ h => h.tail) ?_)))))
    exact EX.perm p2 (EX.perm p2 (EX.meet true trivial (.refl _) (.sl 0 9 rfl)))
   refine TL.sub (.eq m0 (congrArg Value.bool (decide_eq_false g79)) (.eq m1 (congrArg Value.bool (decide_eq_false g79)) (.cons m2 (.cons m3 (.cons m4 (.cons m5 (.cons m6 (.cons m7 (.cons m8 (.cons m9 (.cons m10 (.cons m11 .nil)))))))))))) (TL.gv m0 (r_move (.t m3)) (TL.gv m1 (n_eql ((usedN dist dist.length)) 1 (.t m0) .c rfl rfl) (TL.gv m2 (r_move (.t m0)) ?_)))
   by_cases g82 : (usedN dist dist.length) = 1
   ·
    refine TL.sub (.eq m0 (congrArg Value.bool (decide_eq_true g82)) (.eq m1 (congrArg Value.bool (decide_eq_true g82)) (.cons m2 (.cons m3 (.cons m4 (.cons m5 (.cons m6 (.cons m7 (.cons m8 (.cons m9 (.cons m10 (.cons m11 (.cons m12 (.cons m13 (.cons m14 .nil))))))))))))))) (TL.gv m0 (r_move (.t m7)) (TL.gcall m1 (r_call ce_62 (.cons (.t m0) .nil)) (fun w hS => t62 (slc 1 v1 ((lit ++ dist).length) ((lit ++ dist).map i64)) dist e nl (e_c - nl) hRd (by omega) h15d hS) ?_))
    rintro _ w84 ⟨rfl, hS⟩
    refine TW.at hS ?_
    refine TL.gv m2 (r_neq (.t m0) .c) (TL.gv m6 (r_pickt (.t m3) (.t m0)) (TL.val (r_pickf (.t m7) (.t m0)) (TL.sub (.hd .t11) (TL.nil (EX.perm p2 (EX.conv (fun _ h => h.tail) ?_))))))
    exact EX.perm p2 (EX.perm p2 (EX.meet (decide (¬ ((32768 - ((kraft dist : Nat) : Int))) = 16384)) trivial (.refl _) (.eq m0 (by first | rfl | (congr 1 <;> omega)) (.sl 1 8 rfl))))
   refine TL.sub (.eq m0 (congrArg Value.bool (decide_eq_false g82)) (.eq m1 (congrArg Value.bool (decide_eq_false g82)) (.cons m2 (.cons m3 (.cons m4 (.cons m5 (.cons m6 (.cons m7 (.cons m8 (.cons m9 (.cons m10 (.cons m11 (.cons m12 (.cons m13 (.cons m14 .nil))))))))))))))) (TL.gn m0 (TL.gn m0 (TL.gn m0 (TL.gv m3 (r_pickf (.t m0) .c) (TL.val (r_pickf (.t m4) (.t m0)) (TL.sub (.hd .t8) (TL.nil (EX.perm p2 (EX.conv (fun _ h => h.tail) ?_)))))))))
   exact EX.perm p2 (EX.perm p2 (EX.meet false trivial (.refl _) (.sl 0 9 rfl)))
  rintro bq hbq
  refine CT.iff m0 (fun c87 => ?_) (fun c87 => ?_)
  ·
   refine CT.sub .t1 (CT.region (TL.m m7 (TL.m m1 (TL.perm p2 (TL.perm p1 (TL.call (r_call ce_98 (.cons (.t m1) (.cons (.t m0) .nil))) (fun w hS => t98_off (slc 1 v1 ((lit ++ dist).length) ((lit ++ dist).map i64)) dist e nl (e_c - nl) hRd (by omega) h15d (by decide) hS) ?_))))))
   rintro _ w90 ⟨rfl, hS⟩
   refine TW.at hS ?_
   refine TL.sub .t3 (TL.e (CT.region (TL.m m7 (TL.m m2 (TL.m m2 (TL.perm p1 (TL.perm p1 (TL.call (r_call ce_74 (.cons (.t m2) (.cons (.t m1) (.cons (.t m0) .nil)))) (fun w hS => t74_o (slc 1 v1 ((lit ++ dist).length) ((lit ++ dist).map i64)) hRl hRd (by omega) (by omega) h15l h15d hS) ?_))))))))
   rintro _ w94 ⟨rfl, hS⟩
   refine TW.at hS ?_
   refine TL.sub .t4 (TL.nil (EX.perm p2 (EX.perm p1 (EX.perm p2 (EX.conv (fun _ h => h.tail) ?_)))))
   exact EX.perm p1 (EX.perm p1 (EX.end_ (.inr rfl) (res0 Tryz.results76) (fun _ hS => ⟨rfl, kk, out, by omega, by omega, .inr ⟨he, hS⟩⟩)))
  refine CT.sub .t1 (CT.skip (EX.seq (CT.region (TL.m m7 (TL.m m2 (TL.m m2 (TL.perm p2 (TL.perm p1 (TL.call (r_call ce_74 (.cons (.t m2) (.cons (.t m1) (.cons (.t m0) .nil)))) (fun w hS => t74_o (slc 1 v1 ((lit ++ dist).length) ((lit ++ dist).map i64)) hRl hRd (by omega) (by omega) h15l h15d hS) ?_)))))))))
  rintro _ w94 ⟨rfl, hS⟩
  refine TW.at hS ?_
  refine TL.sub .t4 (TL.nil (EX.perm p2 (EX.perm p1 (EX.perm p2 (EX.conv (fun _ h => h.tail) ?_)))))
  exact EX.perm p1 (EX.perm p1 (EX.end_ (.inr rfl) (res0 Tryz.results76) (fun _ hS => ⟨rfl, kk, out, by omega, by omega, .inr ⟨he, hS⟩⟩)))
 have hus := usedN_over hovd h15d
 replace he := he ho
 refine CT.region (TL.m m7 (TL.m m2 (TL.perm p1 (TL.perm p1 (TL.call (r_call ce_98 (.cons (.t m1) (.cons (.t m0) .nil))) (fun w hS => t98_full (slc 1 v1 ((lit ++ dist).length) ((lit ++ dist).map i64)) lit e 0 e_c hRl (by omega) h15l hfl hS) ?_)))))
 rintro _ w74 ⟨rfl, hS⟩
 refine TW.at hS ?_
 refine TL.sub .t3 (TL.e (CT.seq (CT.q (TL.m m0 (TL.perm p1 (TL.call (r_call ce_95 (.cons (.t m0) .nil)) (fun w hS => t95 (slc 1 v1 ((lit ++ dist).length) ((lit ++ dist).map i64)) dist e nl (e_c - nl) hRd (by omega) h15d hS) ?_))))))
 rintro _ w76 ⟨rfl, hS⟩
 refine TW.at hS ?_
 refine TL.a m0 (TL.sub (.hd .t2) (TL.e (CT.cut (X := Bool) (fun gx => [(87, (.bool gx)), (9, (.slice (some ⟨e, nl, none⟩) dist.length ((e_c - nl)))), (8, (.slice (some ⟨e, 0, none⟩) lit.length e_c)), (34, (i64 j)), (33, (i64 many)), (5, (.slice (some ⟨b32, 0, none⟩) own.length 19)), (3, (i64 nd)), (2, (i64 nl)), (0, (.pointer (some ⟨p, 0, none⟩)))]) (fun gx => (Sp p sv (B) kk (.slice dp dd.length dc) out ((-1))) :: DA :: slc 1 v1 ((lit ++ dist).length) ((lit ++ dist).map i64) :: R) (fun gx => gx = true) ?_ ?_)))
 ·
  refine CT.region (TL.m m0 (TL.val (n_gtr ((usedN dist dist.length)) 1 (.t m0) .c rfl rfl) (TL.m m0 ?_)))
  by_cases g79 : 1 < (usedN dist dist.length)
  ·
   refine TL.sub (.eq m0 (congrArg Value.bool (decide_eq_true g79)) (.eq m1 (congrArg Value.bool (decide_eq_true g79)) (.cons m2 (.cons m3 (.cons m4 (.cons m5 (.cons m6 (.cons m7 (.cons m8 (.cons m9 (.cons m10 (.cons m11 .nil)))))))))))) (TL.gn m0 (TL.gn m0 (TL.gnu m0 ?_)))
   refine TL.gu m0 ?_
   refine TL.gu m1 ?_
   refine TL.gu m2 ?_
   refine TL.gn m4 (TL.val (r_pickt (.t m4) .c) (TL.sub (.hd .t8) (TL.nil (EX.perm p2 (EX.conv (fun _ h => h.tail) ?_)))))
   exact EX.perm p2 (EX.perm p2 (EX.meet true (by first | rfl | (exfalso; omega)) (.refl _) (.sl 0 9 rfl)))
  refine TL.sub (.eq m0 (congrArg Value.bool (decide_eq_false g79)) (.eq m1 (congrArg Value.bool (decide_eq_false g79)) (.cons m2 (.cons m3 (.cons m4 (.cons m5 (.cons m6 (.cons m7 (.cons m8 (.cons m9 (.cons m10 (.cons m11 .nil)))))))))))) (TL.gv m0 (r_move (.t m3)) (TL.gv m1 (n_eql ((usedN dist dist.length)) 1 (.t m0) .c rfl rfl) (TL.gv m2 (r_move (.t m0)) ?_)))
  by_cases g82 : (usedN dist dist.length) = 1
  ·
   refine TL.sub (.eq m0 (congrArg Value.bool (decide_eq_true g82)) (.eq m1 (congrArg Value.bool (decide_eq_true g82)) (.cons m2 (.cons m3 (.cons m4 (.cons m5 (.cons m6 (.cons m7 (.cons m8 (.cons m9 (.cons m10 (.cons m11 (.cons m12 (.cons m13 (.cons m14 .nil))))))))))))))) (TL.gv m0 (r_move (.t m7)) (TL.gcall m1 (r_call ce_62 (.cons (.t m0) .nil)) (fun w hS => t62 (slc 1 v1 ((lit ++ dist).length) ((lit ++ dist).map i64)) dist e nl (e_c - nl) hRd (by omega) h15d hS) ?_))
   rintro _ w84 ⟨rfl, hS⟩
   refine TW.at hS ?_
   refine TL.gv m2 (r_neq (.t m0) .c) (TL.gv m6 (r_pickt (.t m3) (.t m0)) (TL.val (r_pickf (.t m7) (.t m0)) (TL.sub (.hd .t11) (TL.nil (EX.perm p2 (EX.conv (fun _ h => h.tail) ?_))))))
   exact EX.perm p2 (EX.perm p2 (EX.meet (decide (¬ ((32768 - ((kraft dist : Nat) : Int))) = 16384)) (by first | rfl | (exfalso; omega)) (.refl _) (.eq m0 (by first | rfl | (congr 1 <;> omega)) (.sl 1 8 rfl))))
  refine TL.sub (.eq m0 (congrArg Value.bool (decide_eq_false g82)) (.eq m1 (congrArg Value.bool (decide_eq_false g82)) (.cons m2 (.cons m3 (.cons m4 (.cons m5 (.cons m6 (.cons m7 (.cons m8 (.cons m9 (.cons m10 (.cons m11 (.cons m12 (.cons m13 (.cons m14 .nil))))))))))))))) (TL.gn m0 (TL.gn m0 (TL.gn m0 (TL.gv m3 (r_pickf (.t m0) .c) (TL.val (r_pickf (.t m4) (.t m0)) (TL.sub (.hd .t8) (TL.nil (EX.perm p2 (EX.conv (fun _ h => h.tail) ?_)))))))))
  exact EX.perm p2 (EX.perm p2 (EX.meet false (by first | rfl | (exfalso; omega)) (.refl _) (.sl 0 9 rfl)))
 rintro bq hbq
 refine CT.iff m0 (fun c87 => ?_) (fun c87 => ?_)
 ·
  refine CT.sub .t1 (CT.region (TL.m m7 (TL.m m1 (TL.perm p2 (TL.perm p1 (TL.call (r_call ce_98 (.cons (.t m1) (.cons (.t m0) .nil))) (fun w hS => t98_over (slc 1 v1 ((lit ++ dist).length) ((lit ++ dist).map i64)) dist e nl (e_c - nl) hRd (by omega) h15d hovd hS) ?_))))))
  rintro _ w90 ⟨rfl, hS⟩
  refine TW.at hS ?_
  refine TL.sub .t3 (TL.e (CT.region (TL.m m7 (TL.m m2 (TL.m m2 (TL.perm p1 (TL.perm p1 (TL.call (r_call ce_74 (.cons (.t m2) (.cons (.t m1) (.cons (.t m0) .nil)))) (fun w hS => t74_o (slc 1 v1 ((lit ++ dist).length) ((lit ++ dist).map i64)) hRl hRd (by omega) (by omega) h15l h15d hS) ?_))))))))
  rintro _ w94 ⟨rfl, hS⟩
  refine TW.at hS ?_
  refine TL.sub .t4 (TL.nil (EX.perm p2 (EX.perm p1 (EX.perm p2 (EX.conv (fun _ h => h.tail) ?_)))))
  exact EX.perm p1 (EX.perm p1 (EX.end_ (.inr rfl) (res0 Tryz.results76) (fun _ hS => ⟨rfl, kk, out, by omega, by omega, .inr ⟨he, hS⟩⟩)))
 exact absurd (hbq.symm.trans c87) (by decide)
end Go.Eng
