/- The walk of Read. -/
import Derived.Test.YtkpadembffdepaaGreatDoorGl
namespace Go.Eng
open Go Go.Proofs Go.Infl
set_option maxRecDepth 20000
set_option linter.unusedSimpArgs false
set_option linter.unusedVariables false


theorem u8_at {hist : Nat → Nat} {c : List Nat} {a n j : Nat} {x : Value} (hat : ∀ j x, c[j]? = some x → hist (a + j) = x) (hj : ((c.take n).map u8)[j]? = some x) : u8 (hist (a + j)) = x := by
  rw [List.getElem?_map, List.getElem?_take] at hj
  split at hj
  · cases hc : c[j]? with
    | none => rw [hc] at hj; cases hj
    | some y => rw [hc] at hj; cases hj; rw [hat j y hc]
  · cases hj
/-- What one Read does. -/
def RdPost (G : World) (R : List HProp) (f r hb db : Nat) (B : List Bool) (hF : List Nat) (eof : Value) (del : List Nat) (v : Value) (w' : World) : Prop :=
  ∃ (d : List Nat) (e : Value) (F' : Nat → Value), v = .tuple #[i64 d.length, e] ∧ d.length ≤ 1000 ∧ (∀ j x, d[j]? = some x → F' j = u8 x) ∧
    ((e = .nilIface ∧ 0 < d.length ∧ ∃ M, Sat G w' (RSA f r hb B hF eof (del ++ d) (· < M) :: blk db 1000 F' :: R)) ∨ (e = eof ∧ del ++ d = hF ∧ Sat G w' (blk db 1000 F' :: R)))
section
variable {G w : World} {R : List HProp} {f r hb db i M a cp2 : Nat} {B : List Bool} {hF del h c un : List Nat} {eof : Value} {s : DS} {hist : Nat → Nat} {F : Nat → Value}
theorem got_at {n : Nat} : ∀ j x, (c.take n)[j]? = some x → updl F 0 ((c.take n).map u8) j = u8 x := fun j x hj => by
  have := updl_get (F := F) (off := 0) (vs := (c.take n).map u8) (j := j) (v := u8 x) (by rw [List.getElem?_map, hj]; rfl)
  rwa [Nat.zero_add] at this
theorem Sat.qt {ok : Nat → Prop} (hS : Sat G w (Qt B hF eof s i h un ok :: R)) : (∃ mu, s.err = .nilIface ∧ ok mu ∧ Sat G w (Pl B hF s i h mu :: R)) ∨ (s.err = eof ∧ h = hF ∧ un = [] ∧ Sat G w R) := by
  obtain ⟨o, hS⟩ := hS.ex
  cases o with
  | some mu =>
    obtain ⟨⟨h5, h6⟩, hS⟩ := (Sat.unsep hS).pure
    exact .inl ⟨mu, h5, h6, hS⟩
  | none =>
    obtain ⟨⟨h5, h6, h7⟩, hS⟩ := hS.pure
    exact .inr ⟨h5, h6, h7, hS⟩
theorem read_A (H : Base r hb B s i hist h) (hh : h = del ++ (c ++ un)) (hu : un.length = s.wr - s.rd) (hcp : c.length ≤ cp2) (hap : a + c.length ≤ 32768) (hat : ∀ j x, c[j]? = some x → hist (a + j) = x)
    (hS : Sat G w (blk f 1054 (D { s with toRead := .slice (some ⟨hb, (if cp2 = min c.length 1000 then a else a + min c.length 1000), none⟩) (c.length - min c.length 1000) (cp2 - min c.length 1000) }) :: Br r B i :: blk hb 32768 (fun j => u8 (hist j)) :: Qt B hF eof s i h un (· < M) :: R)) :
    RS G R f r hb B hF eof (del ++ c.take (min c.length 1000)) (· < M) w := by
  have htr : TR hb hist (.slice (some ⟨hb, (if cp2 = min c.length 1000 then a else a + min c.length 1000), none⟩) (c.length - min c.length 1000) (cp2 - min c.length 1000)) (c.drop (min c.length 1000)) := by
    refine .inr ⟨_, _, by rw [List.length_drop], by rw [List.length_drop]; omega, by rw [List.length_drop]; split <;> omega, fun j x hj => ?_⟩
    have hlt := (List.getElem?_eq_some_iff.1 hj).1
    rw [List.length_drop] at hlt
    rw [List.getElem?_drop] at hj
    rw [if_neg (by omega), Nat.add_assoc]
    exact hat _ _ hj
  have hh' : h = (del ++ c.take (min c.length 1000)) ++ (c.drop (min c.length 1000) ++ un) := by
    rw [List.append_assoc, ← List.append_assoc (c.take _), List.take_append_drop, hh]
  rcases (hS.perm p3).qt with ⟨mu, h1, h2, hS⟩ | ⟨h1, h2, h3, hS⟩
  · exact ⟨{ s with toRead := .slice (some ⟨hb, (if cp2 = min c.length 1000 then a else a + min c.length 1000), none⟩) (c.length - min c.length 1000) (cp2 - min c.length 1000) }, i, hist, h, _, un, ⟨H.r_, H.hi, H.win, H.rw_, H.wl, H.ro, H.il⟩, hh', hu, htr, .inl ⟨h1, mu, h2, (hS.imp Pl.toRead).perm (List.perm_middle (l₁ := [Eng.blk f 1054 (Eng.D _), Br r B i, Eng.blk hb 32768 (fun j => u8 (hist j))])).symm⟩⟩
  · exact ⟨{ s with toRead := .slice (some ⟨hb, (if cp2 = min c.length 1000 then a else a + min c.length 1000), none⟩) (c.length - min c.length 1000) (cp2 - min c.length 1000) }, i, hist, h, _, un, ⟨H.r_, H.hi, H.win, H.rw_, H.wl, H.ro, H.il⟩, hh', hu, htr, .inr ⟨h1, h2, h3, hS⟩⟩
theorem read_A1 (H : Base r hb B s i hist h) (hh : h = del ++ (c ++ un)) (hu : un.length = s.wr - s.rd) (hcp : c.length ≤ cp2) (hap : a + c.length ≤ 32768) (hat : ∀ j x, c[j]? = some x → hist (a + j) = x) (hc : 0 < c.length) (hr : ¬ c.length - min c.length 1000 = 0)
    (hS : Sat G w (blk f 1054 (D { s with toRead := .slice (some ⟨hb, (if cp2 = min c.length 1000 then a else a + min c.length 1000), none⟩) (c.length - min c.length 1000) (cp2 - min c.length 1000) }) :: Br r B i :: blk hb 32768 (fun j => u8 (hist j)) :: Qt B hF eof s i h un (· < M) :: blk db 1000 (updl F 0 ((c.take (min c.length 1000)).map u8)) :: R)) :
    RdPost G R f r hb db B hF eof del (.tuple #[i64 (min c.length 1000), .nilIface]) w := by
  have hl : (c.take (min c.length 1000)).length = min c.length 1000 := by rw [List.length_take]; omega
  exact ⟨c.take (min c.length 1000), .nilIface, _, by rw [hl], by omega, got_at, .inl ⟨rfl, by omega, M, (read_A H hh hu hcp hap hat hS).toA⟩⟩
theorem read_A0 (H : Base r hb B s i hist h) (hh : h = del ++ (c ++ un)) (hu : un.length = s.wr - s.rd) (hcp : c.length ≤ cp2) (hap : a + c.length ≤ 32768) (hat : ∀ j x, c[j]? = some x → hist (a + j) = x) (hc : 0 < c.length) (hr : c.length - min c.length 1000 = 0)
    (hS : Sat G w (blk f 1054 (D { s with toRead := .slice (some ⟨hb, (if cp2 = min c.length 1000 then a else a + min c.length 1000), none⟩) (c.length - min c.length 1000) (cp2 - min c.length 1000) }) :: Br r B i :: blk hb 32768 (fun j => u8 (hist j)) :: Qt B hF eof s i h un (· < M) :: blk db 1000 (updl F 0 ((c.take (min c.length 1000)).map u8)) :: R)) :
    RdPost G R f r hb db B hF eof del (.tuple #[i64 (min c.length 1000), s.err]) w := by
  have hl : (c.take (min c.length 1000)).length = min c.length 1000 := by rw [List.length_take]; omega
  have hA := (read_A H hh hu hcp hap hat hS).toA
  rcases (hS.perm p3).qt with ⟨mu, h1, h2, _⟩ | ⟨h1, h2, h3, hS⟩
  · exact ⟨c.take (min c.length 1000), s.err, _, by rw [hl], by omega, got_at, .inl ⟨h1, by omega, M, hA⟩⟩
  · refine ⟨c.take (min c.length 1000), s.err, _, by rw [hl], by omega, got_at, .inr ⟨h1, ?_, hS.tail.tail.tail⟩⟩
    rw [List.take_of_length_le (by omega), ← h2, hh, h3, List.append_nil]
theorem read_B {A1 A2 A3 : HProp} (hh : h = del ++ (c ++ un)) (hc0 : c = []) (h2 : h = hF) (h3 : un = []) (hS : Sat G w (A1 :: A2 :: A3 :: blk db 1000 F :: R)) :
    RdPost G R f r hb db B hF eof del (.tuple #[i64 0, eof]) w :=
  ⟨[], eof, F, rfl, Nat.zero_le _, (fun j x hj => by cases hj), .inr ⟨rfl, by rw [← h2, hh, hc0, h3]; rfl, hS.tail.tail.tail⟩⟩
end
theorem t154 {G : World} {R : List HProp} {w : World} {f r hb db M0 : Nat} {B : List Bool} {hF del : List Nat} {ea : Addr} {F : Nat → Value} (hE : EOFIs G ea) (hBl : B.length < 1099511627776)
    (hS : Sat G w ((RSA f r hb B hF (.iface 187 (.pointer (some ea))) del (· < M0)) :: blk db 1000 F :: R)) : CallsR Tryz.prog 154 #[.pointer (some ⟨f, 0, none⟩), .slice (some ⟨db, 0, none⟩) 1000 1000] w (RdPost G R f r hb db B hF (.iface 187 (.pointer (some ea))) del) := by
  refine calls_in (n := 75) [(0, (.pointer (some ⟨f, 0, none⟩))), (1, (.slice (some ⟨db, 0, none⟩) (1000) (1000)))] Tryz.func154 rfl rfl hS args2 ?_
  refine CT.seq ?_
  refine CT.region ?_
  refine TL.val (r_asg .c) ?_
  refine TL.val (r_asg .c) ?_
  refine TL.nil ?_
  refine EX.seq ?_
  refine CT.block ?_
  refine CT.loop (X := Nat) (fun gx => [(0, (.pointer (some ⟨f, 0, none⟩))), (1, (.slice (some ⟨db, 0, none⟩) (1000) (1000)))]) (fun gx => (RSA f r hb B hF (.iface 187 (.pointer (some ea))) del (· < gx)) :: (blk db (1000) (F)) :: R) (fun gx => True) (fun gx => gx) (M0) (trivial) (.refl _) (.cons m2 (.cons m3 .nil)) ?_
  rintro M -
  show CT _ _ _ [(0, (.pointer (some ⟨f, 0, none⟩))), (1, (.slice (some ⟨db, 0, none⟩) (1000) (1000)))] _ _ ((RSA f r hb B hF (.iface 187 (.pointer (some ea))) del (· < M)) :: (blk db (1000) (F)) :: R)
  refine CT.block ?_
  refine CT.seq ?_
  refine CT.seq ?_
  refine CT.rsOpen ?_
  intro s i hist h c un p cp H hh hu htr htv
  refine CT.fold (A' := (blk f 1054 (D ⟨s.r, s.rBuf, (s.roff), (s.b), (s.nb), s.H, s.bits, s.cbits, s.hist, (s.wr), (s.rd), (s.full), (s.b0), (s.b1), (s.b2), (s.b3), s.step, (s.ss), (s.final), s.err, (.slice p (c.length) (cp)), s.hl, s.hd, (s.cl), (s.cd)⟩))) a0 (D_eq (by rw [← htv])) ?_
  refine CT.region ?_
  refine TL.val (r_move (.t m0)) ?_
  refine TL.val (r_nil (.t m0)) ?_
  refine TL.val (r_fa (off' := 1049) fo_103_15 (.t m0)) ?_
  refine TL.val (r_ld (v := (.slice p (c.length) (cp))) Tryz.isAgg22 m0 (.t m0) (by decide) (Dget_toRead _)) ?_
  refine TL.val (r_len Tryz.underlying22 (.t m0)) ?_
  refine TL.val (n_gtr (c.length) (0) (.t m0) .c rfl rfl) ?_
  refine TL.sub (.hd (.tl (.tl (.tl (.tl (.tl .refl)))))) ?_
  refine TL.nil ?_
  refine EX.seq ?_
  refine CT.ifd m0 (fun c12 => ?_) (fun c12 => ?_)
  ·
    obtain ⟨a, cp2, htv2, hcp, hap, hat⟩ := htr.at_ c12
    refine CT.fold (A' := (blk f 1054 (D ⟨s.r, s.rBuf, (s.roff), (s.b), (s.nb), s.H, s.bits, s.cbits, s.hist, (s.wr), (s.rd), (s.full), (s.b0), (s.b1), (s.b2), (s.b3), s.step, (s.ss), (s.final), s.err, (.slice (some ⟨hb, a, none⟩) (c.length) (cp2)), s.hl, s.hd, (s.cl), (s.cd)⟩))) a0 (D_eq (by rw [← htv, htv2])) ?_
    refine CT.sub (.tl .refl) ?_
    refine CT.seq ?_
    refine CT.region ?_
    refine TL.val (r_move (.t m1)) ?_
    refine TL.val (r_move (.t m1)) ?_
    refine TL.val (r_nil (.t m0)) ?_
    refine TL.val (r_fa (off' := 1049) fo_103_15 (.t m0)) ?_
    refine TL.val (r_ld (v := (.slice (some ⟨hb, a, none⟩) (c.length) (cp2))) Tryz.isAgg22 m0 (.t m0) (by decide) (Dget_toRead _)) ?_
    refine TL.perm p4 ?_
    refine TL.w (r_copy (l := (min c.length 1000)) (ds := (c.take (min c.length 1000)).map u8) el_22 (.t m4) (.t m0) rfl (Rds.blk m3 (by simp) (by omega) (fun j x hj => u8_at hat hj)) (ones_map one_u8) (by omega)) ?_
    rintro _ w18 ⟨rfl, hS⟩
    refine TW.at hS ?_
    refine TL.val (r_asg (.t m0)) ?_
    refine TL.sub (.hd (.tl (.tl (.tl (.tl (.tl (.tl .refl))))))) ?_
    refine TL.nil ?_
    refine EX.seq ?_
    refine CT.seq ?_
    refine CT.region ?_
    refine TL.val (r_move (.t m1)) ?_
    refine TL.val (r_move (.t m2)) ?_
    refine TL.val (r_nil (.t m0)) ?_
    refine TL.val (r_fa (off' := 1049) fo_103_15 (.t m0)) ?_
    refine TL.val (r_ld (v := (.slice (some ⟨hb, a, none⟩) (c.length) (cp2))) Tryz.isAgg22 m1 (.t m0) (by decide) (Dget_toRead _)) ?_
    refine TL.val (r_move (.t m5)) ?_
    refine TL.val (r_slice (off' := (if cp2 = min c.length 1000 then a else a + min c.length 1000)) (m := c.length - (min c.length 1000)) (c' := cp2 - (min c.length 1000)) Tryz.underlying22 Tryz.sizeOf5 (.t m1) (.so (j := (min c.length 1000)) (.t m0) rfl) .no (by first | (show min c.length 1000 ≤ c.length; omega) | (show c.length ≤ cp2; omega)) (by first | (show min c.length 1000 ≤ c.length; omega) | (show c.length ≤ cp2; omega)) (by show (if _ = _ then _ else _ + _ * 1) = _; rw [Nat.mul_one]; rfl) (by simp) (by simp)) ?_
    refine TL.val (r_nil (.t m6)) ?_
    refine TL.val (r_fa (off' := 1049) fo_103_15 (.t m0)) ?_
    refine TL.s (r_st (F' := D ⟨s.r, s.rBuf, (s.roff), (s.b), (s.nb), s.H, s.bits, s.cbits, s.hist, (s.wr), (s.rd), (s.full), (s.b0), (s.b1), (s.b2), (s.b3), s.step, (s.ss), (s.final), s.err, (.slice (some ⟨hb, (if cp2 = min c.length 1000 then a else a + min c.length 1000), none⟩) (c.length - (min c.length 1000)) (cp2 - (min c.length 1000))), s.hl, s.hd, (s.cl), (s.cd)⟩) Tryz.sizeOf22 (Dset_toRead ⟨s.r, s.rBuf, (s.roff), (s.b), (s.nb), s.H, s.bits, s.cbits, s.hist, (s.wr), (s.rd), (s.full), (s.b0), (s.b1), (s.b2), (s.b3), s.step, (s.ss), (s.final), s.err, (.slice (some ⟨hb, a, none⟩) (c.length) (cp2)), s.hl, s.hd, (s.cl), (s.cd)⟩ (.slice (some ⟨hb, (if cp2 = min c.length 1000 then a else a + min c.length 1000), none⟩) (c.length - (min c.length 1000)) (cp2 - (min c.length 1000)))) a1 (.t m0) (.t m2) (by decide)) ?_
    refine TL.sub (.tl (.tl (.tl (.tl (.tl (.tl (.tl (.tl (.tl .refl))))))))) ?_
    refine TL.nil ?_
    refine EX.seq ?_
    refine CT.seq ?_
    refine CT.seq ?_
    refine CT.region ?_
    refine TL.val (r_move (.t m1)) ?_
    refine TL.val (r_nil (.t m0)) ?_
    refine TL.val (r_fa (off' := 1049) fo_103_15 (.t m0)) ?_
    refine TL.val (r_ld (v := (.slice (some ⟨hb, (if cp2 = min c.length 1000 then a else a + min c.length 1000), none⟩) (c.length - (min c.length 1000)) (cp2 - (min c.length 1000)))) Tryz.isAgg22 m1 (.t m0) (by decide) (Dget_toRead _)) ?_
    refine TL.val (r_len Tryz.underlying22 (.t m0)) ?_
    refine TL.val (n_eql (c.length - (min c.length 1000)) (0) (.t m0) .c rfl rfl) ?_
    refine TL.sub (.hd (.tl (.tl (.tl (.tl (.tl .refl)))))) ?_
    refine TL.nil ?_
    refine EX.seq ?_
    refine CT.ifd m0 (fun c33 => ?_) (fun c33 => ?_)
    ·
      refine CT.sub (.tl .refl) ?_
      refine CT.seq ?_
      refine CT.still fm (by kernel_rfl) ?_
      refine TS.val (r_move (.t m0)) ?_
      refine TS.val (r_move (.t m2)) ?_
      refine TS.val (r_nil (.t m0)) ?_
      refine TS.val (r_fa (off' := 1048) fo_103_14 (.t m0)) ?_
      refine TS.val (r_ld (v := s.err) Tryz.isAgg82 m1 (.t m0) (by decide) (Dget_err _)) ?_
      refine TS.val (r_asg (.t m4)) ?_
      refine TS.val (r_asg (.t m1)) ?_
      refine TS.nil ?_
      refine TL.sub (.hd (.hd (.tl (.tl (.tl (.tl (.tl .refl))))))) ?_
      refine TL.nil ?_
      refine EX.seq ?_
      refine CT.ret ?_
      refine EX.then_ret ?_
      refine EX.then_ret ?_
      refine EX.bret ?_
      refine EX.then_ret ?_
      refine EX.bret ?_
      refine EX.perm p4 ?_
      refine EX.perm p4 ?_
      refine EX.perm p4 ?_
      refine EX.perm p4 ?_
      exact EX.end_ (.inl rfl) (res2 Tryz.results154 m1 m0) (fun _ hS => read_A0 H hh hu hcp hap hat (by omega) (by omega) hS)
    ·
      refine CT.sub (.tl .refl) ?_
      refine CT.skip ?_
      refine EX.seq ?_
      refine CT.seq ?_
      refine CT.region ?_
      refine TL.val (r_move (.t m0)) ?_
      refine TL.val (r_asg (.t m0)) ?_
      refine TL.val (r_asg .c) ?_
      refine TL.sub (.hd (.hd (.tl .refl))) ?_
      refine TL.nil ?_
      refine EX.seq ?_
      refine CT.ret ?_
      refine EX.then_ret ?_
      refine EX.bret ?_
      refine EX.then_ret ?_
      refine EX.bret ?_
      refine EX.perm p4 ?_
      refine EX.perm p4 ?_
      refine EX.perm p4 ?_
      refine EX.perm p4 ?_
      exact EX.end_ (.inl rfl) (res2 Tryz.results154 m1 m0) (fun _ hS => read_A1 H hh hu hcp hap hat (by omega) (by omega) hS)
  ·
    have hc0 : c = [] := List.length_eq_zero_iff.1 (by omega)
    refine CT.sub (.tl .refl) ?_
    refine CT.skip ?_
    refine EX.seq ?_
    refine CT.seq ?_
    refine CT.seq ?_
    refine CT.perm p3 ?_
    refine CT.qtSplit (fun mu herr hmu => ?_) (fun herr hhF hun => ?_)
    ·
      refine CT.fold (A' := (blk f 1054 (D ⟨s.r, s.rBuf, (s.roff), (s.b), (s.nb), s.H, s.bits, s.cbits, s.hist, (s.wr), (s.rd), (s.full), (s.b0), (s.b1), (s.b2), (s.b3), s.step, (s.ss), (s.final), .nilIface, (.slice p (c.length) (cp)), s.hl, s.hd, (s.cl), (s.cd)⟩))) a1 (D_eq (by rw [herr])) ?_
      refine CT.region ?_
      refine TL.val (r_move (.t m0)) ?_
      refine TL.val (r_nil (.t m0)) ?_
      refine TL.val (r_fa (off' := 1048) fo_103_14 (.t m0)) ?_
      refine TL.val (r_ld (v := .nilIface) Tryz.isAgg82 m1 (.t m0) (by decide) (Dget_err _)) ?_
      refine TL.val (r_nen Tryz.underlying82 (.t m0)) ?_
      refine TL.sub (.hd (.tl (.tl (.tl (.tl .refl))))) ?_
      refine TL.nil ?_
      refine EX.seq ?_
      refine CT.iff_ m0 ?_
      refine CT.sub (.tl .refl) ?_
      refine CT.skip ?_
      refine EX.seq ?_
      refine CT.seq ?_
      refine CT.plStep (fun hst => ?_) (fun hst => ?_)
      ·
        refine CT.fold (A' := (blk f 1054 (D ⟨s.r, s.rBuf, (s.roff), (s.b), (s.nb), s.H, s.bits, s.cbits, s.hist, (s.wr), (s.rd), (s.full), (s.b0), (s.b1), (s.b2), (s.b3), (.func (.func 68) #[] #[]), (s.ss), (s.final), .nilIface, (.slice p (c.length) (cp)), s.hl, s.hd, (s.cl), (s.cd)⟩))) a1 (D_eq (by rw [hst])) ?_
        refine CT.region ?_
        refine TL.val (r_move (.t m0)) ?_
        refine TL.val (r_nil (.t m0)) ?_
        refine TL.val (r_fa (off' := 1045) fo_103_11 (.t m0)) ?_
        refine TL.val (r_ld (v := (.func (.func 68) #[] #[])) Tryz.isAgg100 m1 (.t m0) (by decide) (Dget_step _)) ?_
        refine TL.val (r_move (.t m4)) ?_
        refine TL.fold (A' := (blk f 1054 (D (s)))) a1 (D_eq (by rw [← herr, ← hst, ← htv])) ?_
        refine TL.perm p3 ?_
        refine TL.perm p3 ?_
        refine TL.perm p3 ?_
        refine TL.call (r_callv ce_68 m1 (.cons (.t m0) .nil)) (fun w hS => step68 (un := un) (mu := mu) hE hBl (by rw [hc0, List.nil_append] at hh; rw [← hh]; exact H) hu (by rw [hc0] at htr; exact htr) herr hst (by rw [hc0, List.nil_append] at hh; rw [← hh]; exact hS)) ?_
        rintro v54 w54 hS
        refine TW.at hS ?_
        refine TL.sub (.tl (.tl (.tl (.tl (.tl (.tl .refl)))))) ?_
        refine TL.nil ?_
        refine EX.seq ?_
        refine CT.seq ?_
        refine CT.rsOpen ?_
        intro s1 i1 hist1 h1 c1 un1 p1 cp1 H1 hh1 hu1 htr1 htv1
        refine CT.fold (A' := (blk f 1054 (D ⟨s1.r, s1.rBuf, (s1.roff), (s1.b), (s1.nb), s1.H, s1.bits, s1.cbits, s1.hist, (s1.wr), (s1.rd), (s1.full), (s1.b0), (s1.b1), (s1.b2), (s1.b3), s1.step, (s1.ss), (s1.final), s1.err, (.slice p1 (c1.length) (cp1)), s1.hl, s1.hd, (s1.cl), (s1.cd)⟩))) a0 (D_eq (by rw [← htv1])) ?_
        refine CT.perm p3 ?_
        refine CT.qtSplit (fun mu1 herr1 hmu1 => ?_) (fun herr1 hhF1 hun1 => ?_)
        ·
          refine CT.fold (A' := (blk f 1054 (D ⟨s1.r, s1.rBuf, (s1.roff), (s1.b), (s1.nb), s1.H, s1.bits, s1.cbits, s1.hist, (s1.wr), (s1.rd), (s1.full), (s1.b0), (s1.b1), (s1.b2), (s1.b3), s1.step, (s1.ss), (s1.final), .nilIface, (.slice p1 (c1.length) (cp1)), s1.hl, s1.hd, (s1.cl), (s1.cd)⟩))) a1 (D_eq (by rw [herr1])) ?_
          refine CT.region ?_
          refine TL.val (r_move (.t m0)) ?_
          refine TL.val (r_nil (.t m0)) ?_
          refine TL.val (r_fa (off' := 1048) fo_103_14 (.t m0)) ?_
          refine TL.val (r_ld (v := .nilIface) Tryz.isAgg82 m1 (.t m0) (by decide) (Dget_err _)) ?_
          refine TL.val (r_nen Tryz.underlying82 (.t m0)) ?_
          refine TL.val (r_move (.t m0)) ?_
          refine TL.gn m0 ?_
          refine TL.gn m0 ?_
          refine TL.gn m0 ?_
          refine TL.gn m0 ?_
          refine TL.gn m0 ?_
          refine TL.gn m0 ?_
          refine TL.val (r_pickf (.t m0) .c) ?_
          refine TL.sub (.hd (.tl (.tl (.tl (.tl (.tl (.tl .refl))))))) ?_
          refine TL.nil ?_
          refine EX.seq ?_
          refine CT.iff_ m0 ?_
          refine CT.sub (.tl .refl) ?_
          refine CT.skip ?_
          refine EX.bnormal ?_
          refine EX.fold (A' := (blk f 1054 (D (s1)))) a1 (D_eq (by rw [← herr1, ← htv1])) ?_
          refine EX.perm p3 ?_
          refine EX.perm p3 ?_
          refine EX.perm p3 ?_
          refine EX.conv (fun _ hS => RS.toA (del := del) (ok := (· < mu)) (eof := (.iface 187 (.pointer (some ea)))) ⟨s1, i1, hist1, h1, c1, un1, H1, hh1, hu1, htr1, .inl ⟨herr1, mu1, hmu1, hS⟩⟩) ?_
          exact EX.again (mu) (trivial) (hmu) (.refl _) (.cons m0 (.cons m1 .nil))
        ·
          refine CT.fold (A' := (blk f 1054 (D ⟨s1.r, s1.rBuf, (s1.roff), (s1.b), (s1.nb), s1.H, s1.bits, s1.cbits, s1.hist, (s1.wr), (s1.rd), (s1.full), (s1.b0), (s1.b1), (s1.b2), (s1.b3), s1.step, (s1.ss), (s1.final), (.iface 187 (.pointer (some ea))), (.slice p1 (c1.length) (cp1)), s1.hl, s1.hd, (s1.cl), (s1.cd)⟩))) a0 (D_eq (by rw [herr1])) ?_
          refine CT.region ?_
          refine TL.val (r_move (.t m0)) ?_
          refine TL.val (r_nil (.t m0)) ?_
          refine TL.val (r_fa (off' := 1048) fo_103_14 (.t m0)) ?_
          refine TL.val (r_ld (v := (.iface 187 (.pointer (some ea)))) Tryz.isAgg82 m0 (.t m0) (by decide) (Dget_err _)) ?_
          refine TL.val (r_nei Tryz.underlying82 (.t m0)) ?_
          refine TL.val (r_move (.t m0)) ?_
          refine TL.gv m0 (r_move (.t m6)) ?_
          refine TL.gv m1 (r_nil (.t m0)) ?_
          refine TL.gv m2 (r_fa (off' := 1049) fo_103_15 (.t m0)) ?_
          refine TL.gv m3 (r_ld (v := (.slice p1 (c1.length) (cp1))) Tryz.isAgg22 m0 (.t m0) (by decide) (Dget_toRead _)) ?_
          refine TL.gv m4 (r_len Tryz.underlying22 (.t m0)) ?_
          refine TL.gv m5 (n_eql (c1.length) (0) (.t m0) .c rfl rfl) ?_
          refine TL.val (r_pickt (.t m6) (.t m0)) ?_
          refine TL.sub (.hd (.tl (.tl (.tl (.tl (.tl (.tl (.tl (.tl (.tl (.tl (.tl (.tl .refl))))))))))))) ?_
          refine TL.nil ?_
          refine EX.seq ?_
          refine CT.ifd m0 (fun c67 => ?_) (fun c67 => ?_)
          ·
            have hz1 : s1.wr - s1.rd = 0 := by rw [← hu1, hun1]; rfl
            have hw1 := H1.rw_
            have hw2 := H1.wl
            refine CT.fold (A' := (blk f 1054 (D ⟨s1.r, s1.rBuf, (s1.roff), (s1.b), (s1.nb), s1.H, s1.bits, s1.cbits, (.slice (some ⟨hb, 0, none⟩) (32768) (32768)), (s1.wr), (s1.rd), (s1.full), (s1.b0), (s1.b1), (s1.b2), (s1.b3), s1.step, (s1.ss), (s1.final), (.iface 187 (.pointer (some ea))), (.slice p1 (c1.length) (cp1)), s1.hl, s1.hd, (s1.cl), (s1.cd)⟩))) a0 (D_eq (by rw [H1.hi])) ?_
            refine CT.sub (.tl .refl) ?_
            refine CT.region ?_
            refine TL.val (r_move (.t m0)) ?_
            refine TL.val (r_move (.t m1)) ?_
            refine TL.val (r_nil (.t m0)) ?_
            refine TL.val (r_fa (off' := 1037) fo_103_9 (.t m0)) ?_
            refine TL.call (r_call ce_108 (.cons (.t m0) .nil)) (fun w hS => t108 f hb ⟨s1.r, s1.rBuf, (s1.roff), (s1.b), (s1.nb), s1.H, s1.bits, s1.cbits, (.slice (some ⟨hb, 0, none⟩) (32768) (32768)), (s1.wr), (s1.rd), (s1.full), (s1.b0), (s1.b1), (s1.b2), (s1.b3), s1.step, (s1.ss), (s1.final), (.iface 187 (.pointer (some ea))), (.slice p1 (c1.length) (cp1)), s1.hl, s1.hd, (s1.cl), (s1.cd)⟩ (by show s1.rd ≤ s1.wr; omega) (by show s1.wr ≤ 32768; omega) (by show s1.rd < 32768; omega) hS) ?_
            rintro z72 w72 ⟨hz72, hS⟩
            replace hz72 : z72 = (.slice (some ⟨hb, s1.rd, none⟩) ((s1.wr - s1.rd)) ((32768 - s1.rd))) := hz72
            subst hz72
            replace hS : Sat G w72 ((blk f 1054 (D ⟨s1.r, s1.rBuf, (s1.roff), (s1.b), (s1.nb), s1.H, s1.bits, s1.cbits, (.slice (some ⟨hb, 0, none⟩) (32768) (32768)), ((s1.wr % 32768)), ((s1.wr % 32768)), ((s1.full) || decide (s1.wr = 32768)), (s1.b0), (s1.b1), (s1.b2), (s1.b3), s1.step, (s1.ss), (s1.final), (.iface 187 (.pointer (some ea))), (.slice p1 (c1.length) (cp1)), s1.hl, s1.hd, (s1.cl), (s1.cd)⟩)) :: (Br r B (i1)) :: (blk hb 32768 (fun j => u8 (hist1 j))) :: (blk db (1000) (F)) :: R) := hS
            refine TW.at hS ?_
            refine TL.val (r_nil (.t m4)) ?_
            refine TL.val (r_fa (off' := 1049) fo_103_15 (.t m0)) ?_
            refine TL.s (r_st (F' := D ⟨s1.r, s1.rBuf, (s1.roff), (s1.b), (s1.nb), s1.H, s1.bits, s1.cbits, (.slice (some ⟨hb, 0, none⟩) (32768) (32768)), ((s1.wr % 32768)), ((s1.wr % 32768)), ((s1.full) || decide (s1.wr = 32768)), (s1.b0), (s1.b1), (s1.b2), (s1.b3), s1.step, (s1.ss), (s1.final), (.iface 187 (.pointer (some ea))), (.slice (some ⟨hb, s1.rd, none⟩) ((s1.wr - s1.rd)) ((32768 - s1.rd))), s1.hl, s1.hd, (s1.cl), (s1.cd)⟩) Tryz.sizeOf22 (Dset_toRead ⟨s1.r, s1.rBuf, (s1.roff), (s1.b), (s1.nb), s1.H, s1.bits, s1.cbits, (.slice (some ⟨hb, 0, none⟩) (32768) (32768)), ((s1.wr % 32768)), ((s1.wr % 32768)), ((s1.full) || decide (s1.wr = 32768)), (s1.b0), (s1.b1), (s1.b2), (s1.b3), s1.step, (s1.ss), (s1.final), (.iface 187 (.pointer (some ea))), (.slice p1 (c1.length) (cp1)), s1.hl, s1.hd, (s1.cl), (s1.cd)⟩ (.slice (some ⟨hb, s1.rd, none⟩) ((s1.wr - s1.rd)) ((32768 - s1.rd)))) a0 (.t m0) (.t m2) (by decide)) ?_
            refine TL.sub (.tl (.tl (.tl (.tl (.tl (.tl (.tl .refl))))))) ?_
            refine TL.nil ?_
            refine EX.bnormal ?_
            refine EX.perm p2 ?_
            refine EX.perm p2 ?_
            refine EX.perm p2 ?_
            refine EX.conv (fun _ hS => RS.toA (del := del) (ok := (· < mu)) (eof := (.iface 187 (.pointer (some ea)))) ⟨⟨s1.r, s1.rBuf, (s1.roff), (s1.b), (s1.nb), s1.H, s1.bits, s1.cbits, (.slice (some ⟨hb, 0, none⟩) (32768) (32768)), ((s1.wr % 32768)), ((s1.wr % 32768)), ((s1.full) || decide (s1.wr = 32768)), (s1.b0), (s1.b1), (s1.b2), (s1.b3), s1.step, (s1.ss), (s1.final), (.iface 187 (.pointer (some ea))), (.slice (some ⟨hb, s1.rd, none⟩) ((s1.wr - s1.rd)) ((32768 - s1.rd))), s1.hl, s1.hd, (s1.cl), (s1.cd)⟩, i1, hist1, h1, [], [], ⟨H1.r_, rfl, H1.win.flush, Nat.le_refl _, Nat.mod_lt _ (by decide), H1.ro, H1.il⟩, by rw [hh1, hun1, List.length_eq_zero_iff.1 c67], (Nat.sub_self _).symm, .inr ⟨s1.rd, 32768 - s1.rd, by show Value.slice _ _ _ = _; rw [hz1]; rfl, Nat.zero_le _, by show s1.rd + 0 ≤ 32768; omega, (fun j x hj => by cases hj)⟩, .inr ⟨rfl, hhF1, rfl, hS⟩⟩) ?_
            exact EX.again (mu) (trivial) (hmu) (.refl _) (.cons m0 (.cons m1 .nil))
          ·
            refine CT.sub (.tl .refl) ?_
            refine CT.skip ?_
            refine EX.bnormal ?_
            refine EX.fold (A' := (blk f 1054 (D (s1)))) a0 (D_eq (by rw [← herr1, ← htv1])) ?_
            refine EX.perm p2 ?_
            refine EX.perm p2 ?_
            refine EX.perm p2 ?_
            refine EX.conv (fun _ hS => RS.toA (del := del) (ok := (· < mu)) (eof := (.iface 187 (.pointer (some ea)))) ⟨s1, i1, hist1, h1, c1, un1, H1, hh1, hu1, htr1, .inr ⟨herr1, hhF1, hun1, hS⟩⟩) ?_
            exact EX.again (mu) (trivial) (hmu) (.refl _) (.cons m0 (.cons m1 .nil))
      ·
        refine CT.fold (A' := (blk f 1054 (D ⟨s.r, s.rBuf, (s.roff), (s.b), (s.nb), s.H, s.bits, s.cbits, s.hist, (s.wr), (s.rd), (s.full), (s.b0), (s.b1), (s.b2), (s.b3), (.func (.func 110) #[] #[]), (s.ss), (s.final), .nilIface, (.slice p (c.length) (cp)), s.hl, s.hd, (s.cl), (s.cd)⟩))) a1 (D_eq (by rw [hst])) ?_
        refine CT.region ?_
        refine TL.val (r_move (.t m0)) ?_
        refine TL.val (r_nil (.t m0)) ?_
        refine TL.val (r_fa (off' := 1045) fo_103_11 (.t m0)) ?_
        refine TL.val (r_ld (v := (.func (.func 110) #[] #[])) Tryz.isAgg100 m1 (.t m0) (by decide) (Dget_step _)) ?_
        refine TL.val (r_move (.t m4)) ?_
        refine TL.fold (A' := (blk f 1054 (D (s)))) a1 (D_eq (by rw [← herr, ← hst, ← htv])) ?_
        refine TL.perm p3 ?_
        refine TL.perm p3 ?_
        refine TL.perm p3 ?_
        refine TL.call (r_callv ce_110 m1 (.cons (.t m0) .nil)) (fun w hS => step110 (un := un) (mu := mu) hE hBl (by rw [hc0, List.nil_append] at hh; rw [← hh]; exact H) hu (by rw [hc0] at htr; exact htr) herr hst (by rw [hc0, List.nil_append] at hh; rw [← hh]; exact hS)) ?_
        rintro v54 w54 hS
        refine TW.at hS ?_
        refine TL.sub (.tl (.tl (.tl (.tl (.tl (.tl .refl)))))) ?_
        refine TL.nil ?_
        refine EX.seq ?_
        refine CT.seq ?_
        refine CT.rsOpen ?_
        intro s1 i1 hist1 h1 c1 un1 p1 cp1 H1 hh1 hu1 htr1 htv1
        refine CT.fold (A' := (blk f 1054 (D ⟨s1.r, s1.rBuf, (s1.roff), (s1.b), (s1.nb), s1.H, s1.bits, s1.cbits, s1.hist, (s1.wr), (s1.rd), (s1.full), (s1.b0), (s1.b1), (s1.b2), (s1.b3), s1.step, (s1.ss), (s1.final), s1.err, (.slice p1 (c1.length) (cp1)), s1.hl, s1.hd, (s1.cl), (s1.cd)⟩))) a0 (D_eq (by rw [← htv1])) ?_
        refine CT.perm p3 ?_
        refine CT.qtSplit (fun mu1 herr1 hmu1 => ?_) (fun herr1 hhF1 hun1 => ?_)
        ·
          refine CT.fold (A' := (blk f 1054 (D ⟨s1.r, s1.rBuf, (s1.roff), (s1.b), (s1.nb), s1.H, s1.bits, s1.cbits, s1.hist, (s1.wr), (s1.rd), (s1.full), (s1.b0), (s1.b1), (s1.b2), (s1.b3), s1.step, (s1.ss), (s1.final), .nilIface, (.slice p1 (c1.length) (cp1)), s1.hl, s1.hd, (s1.cl), (s1.cd)⟩))) a1 (D_eq (by rw [herr1])) ?_
          refine CT.region ?_
          refine TL.val (r_move (.t m0)) ?_
          refine TL.val (r_nil (.t m0)) ?_
          refine TL.val (r_fa (off' := 1048) fo_103_14 (.t m0)) ?_
          refine TL.val (r_ld (v := .nilIface) Tryz.isAgg82 m1 (.t m0) (by decide) (Dget_err _)) ?_
          refine TL.val (r_nen Tryz.underlying82 (.t m0)) ?_
          refine TL.val (r_move (.t m0)) ?_
          refine TL.gn m0 ?_
          refine TL.gn m0 ?_
          refine TL.gn m0 ?_
          refine TL.gn m0 ?_
          refine TL.gn m0 ?_
          refine TL.gn m0 ?_
          refine TL.val (r_pickf (.t m0) .c) ?_
          refine TL.sub (.hd (.tl (.tl (.tl (.tl (.tl (.tl .refl))))))) ?_
          refine TL.nil ?_
          refine EX.seq ?_
          refine CT.iff_ m0 ?_
          refine CT.sub (.tl .refl) ?_
          refine CT.skip ?_
          refine EX.bnormal ?_
          refine EX.fold (A' := (blk f 1054 (D (s1)))) a1 (D_eq (by rw [← herr1, ← htv1])) ?_
          refine EX.perm p3 ?_
          refine EX.perm p3 ?_
          refine EX.perm p3 ?_
          refine EX.conv (fun _ hS => RS.toA (del := del) (ok := (· < mu)) (eof := (.iface 187 (.pointer (some ea)))) ⟨s1, i1, hist1, h1, c1, un1, H1, hh1, hu1, htr1, .inl ⟨herr1, mu1, hmu1, hS⟩⟩) ?_
          exact EX.again (mu) (trivial) (hmu) (.refl _) (.cons m0 (.cons m1 .nil))
        ·
          refine CT.fold (A' := (blk f 1054 (D ⟨s1.r, s1.rBuf, (s1.roff), (s1.b), (s1.nb), s1.H, s1.bits, s1.cbits, s1.hist, (s1.wr), (s1.rd), (s1.full), (s1.b0), (s1.b1), (s1.b2), (s1.b3), s1.step, (s1.ss), (s1.final), (.iface 187 (.pointer (some ea))), (.slice p1 (c1.length) (cp1)), s1.hl, s1.hd, (s1.cl), (s1.cd)⟩))) a0 (D_eq (by rw [herr1])) ?_
          refine CT.region ?_
          refine TL.val (r_move (.t m0)) ?_
          refine TL.val (r_nil (.t m0)) ?_
          refine TL.val (r_fa (off' := 1048) fo_103_14 (.t m0)) ?_
          refine TL.val (r_ld (v := (.iface 187 (.pointer (some ea)))) Tryz.isAgg82 m0 (.t m0) (by decide) (Dget_err _)) ?_
          refine TL.val (r_nei Tryz.underlying82 (.t m0)) ?_
          refine TL.val (r_move (.t m0)) ?_
          refine TL.gv m0 (r_move (.t m6)) ?_
          refine TL.gv m1 (r_nil (.t m0)) ?_
          refine TL.gv m2 (r_fa (off' := 1049) fo_103_15 (.t m0)) ?_
          refine TL.gv m3 (r_ld (v := (.slice p1 (c1.length) (cp1))) Tryz.isAgg22 m0 (.t m0) (by decide) (Dget_toRead _)) ?_
          refine TL.gv m4 (r_len Tryz.underlying22 (.t m0)) ?_
          refine TL.gv m5 (n_eql (c1.length) (0) (.t m0) .c rfl rfl) ?_
          refine TL.val (r_pickt (.t m6) (.t m0)) ?_
          refine TL.sub (.hd (.tl (.tl (.tl (.tl (.tl (.tl (.tl (.tl (.tl (.tl (.tl (.tl .refl))))))))))))) ?_
          refine TL.nil ?_
          refine EX.seq ?_
          refine CT.ifd m0 (fun c67 => ?_) (fun c67 => ?_)
          ·
            have hz1 : s1.wr - s1.rd = 0 := by rw [← hu1, hun1]; rfl
            have hw1 := H1.rw_
            have hw2 := H1.wl
            refine CT.fold (A' := (blk f 1054 (D ⟨s1.r, s1.rBuf, (s1.roff), (s1.b), (s1.nb), s1.H, s1.bits, s1.cbits, (.slice (some ⟨hb, 0, none⟩) (32768) (32768)), (s1.wr), (s1.rd), (s1.full), (s1.b0), (s1.b1), (s1.b2), (s1.b3), s1.step, (s1.ss), (s1.final), (.iface 187 (.pointer (some ea))), (.slice p1 (c1.length) (cp1)), s1.hl, s1.hd, (s1.cl), (s1.cd)⟩))) a0 (D_eq (by rw [H1.hi])) ?_
            refine CT.sub (.tl .refl) ?_
            refine CT.region ?_
            refine TL.val (r_move (.t m0)) ?_
            refine TL.val (r_move (.t m1)) ?_
            refine TL.val (r_nil (.t m0)) ?_
            refine TL.val (r_fa (off' := 1037) fo_103_9 (.t m0)) ?_
            refine TL.call (r_call ce_108 (.cons (.t m0) .nil)) (fun w hS => t108 f hb ⟨s1.r, s1.rBuf, (s1.roff), (s1.b), (s1.nb), s1.H, s1.bits, s1.cbits, (.slice (some ⟨hb, 0, none⟩) (32768) (32768)), (s1.wr), (s1.rd), (s1.full), (s1.b0), (s1.b1), (s1.b2), (s1.b3), s1.step, (s1.ss), (s1.final), (.iface 187 (.pointer (some ea))), (.slice p1 (c1.length) (cp1)), s1.hl, s1.hd, (s1.cl), (s1.cd)⟩ (by show s1.rd ≤ s1.wr; omega) (by show s1.wr ≤ 32768; omega) (by show s1.rd < 32768; omega) hS) ?_
            rintro z72 w72 ⟨hz72, hS⟩
            replace hz72 : z72 = (.slice (some ⟨hb, s1.rd, none⟩) ((s1.wr - s1.rd)) ((32768 - s1.rd))) := hz72
            subst hz72
            replace hS : Sat G w72 ((blk f 1054 (D ⟨s1.r, s1.rBuf, (s1.roff), (s1.b), (s1.nb), s1.H, s1.bits, s1.cbits, (.slice (some ⟨hb, 0, none⟩) (32768) (32768)), ((s1.wr % 32768)), ((s1.wr % 32768)), ((s1.full) || decide (s1.wr = 32768)), (s1.b0), (s1.b1), (s1.b2), (s1.b3), s1.step, (s1.ss), (s1.final), (.iface 187 (.pointer (some ea))), (.slice p1 (c1.length) (cp1)), s1.hl, s1.hd, (s1.cl), (s1.cd)⟩)) :: (Br r B (i1)) :: (blk hb 32768 (fun j => u8 (hist1 j))) :: (blk db (1000) (F)) :: R) := hS
            refine TW.at hS ?_
            refine TL.val (r_nil (.t m4)) ?_
            refine TL.val (r_fa (off' := 1049) fo_103_15 (.t m0)) ?_
            refine TL.s (r_st (F' := D ⟨s1.r, s1.rBuf, (s1.roff), (s1.b), (s1.nb), s1.H, s1.bits, s1.cbits, (.slice (some ⟨hb, 0, none⟩) (32768) (32768)), ((s1.wr % 32768)), ((s1.wr % 32768)), ((s1.full) || decide (s1.wr = 32768)), (s1.b0), (s1.b1), (s1.b2), (s1.b3), s1.step, (s1.ss), (s1.final), (.iface 187 (.pointer (some ea))), (.slice (some ⟨hb, s1.rd, none⟩) ((s1.wr - s1.rd)) ((32768 - s1.rd))), s1.hl, s1.hd, (s1.cl), (s1.cd)⟩) Tryz.sizeOf22 (Dset_toRead ⟨s1.r, s1.rBuf, (s1.roff), (s1.b), (s1.nb), s1.H, s1.bits, s1.cbits, (.slice (some ⟨hb, 0, none⟩) (32768) (32768)), ((s1.wr % 32768)), ((s1.wr % 32768)), ((s1.full) || decide (s1.wr = 32768)), (s1.b0), (s1.b1), (s1.b2), (s1.b3), s1.step, (s1.ss), (s1.final), (.iface 187 (.pointer (some ea))), (.slice p1 (c1.length) (cp1)), s1.hl, s1.hd, (s1.cl), (s1.cd)⟩ (.slice (some ⟨hb, s1.rd, none⟩) ((s1.wr - s1.rd)) ((32768 - s1.rd)))) a0 (.t m0) (.t m2) (by decide)) ?_
            refine TL.sub (.tl (.tl (.tl (.tl (.tl (.tl (.tl .refl))))))) ?_
            refine TL.nil ?_
            refine EX.bnormal ?_
            refine EX.perm p2 ?_
            refine EX.perm p2 ?_
            refine EX.perm p2 ?_
            refine EX.conv (fun _ hS => RS.toA (del := del) (ok := (· < mu)) (eof := (.iface 187 (.pointer (some ea)))) ⟨⟨s1.r, s1.rBuf, (s1.roff), (s1.b), (s1.nb), s1.H, s1.bits, s1.cbits, (.slice (some ⟨hb, 0, none⟩) (32768) (32768)), ((s1.wr % 32768)), ((s1.wr % 32768)), ((s1.full) || decide (s1.wr = 32768)), (s1.b0), (s1.b1), (s1.b2), (s1.b3), s1.step, (s1.ss), (s1.final), (.iface 187 (.pointer (some ea))), (.slice (some ⟨hb, s1.rd, none⟩) ((s1.wr - s1.rd)) ((32768 - s1.rd))), s1.hl, s1.hd, (s1.cl), (s1.cd)⟩, i1, hist1, h1, [], [], ⟨H1.r_, rfl, H1.win.flush, Nat.le_refl _, Nat.mod_lt _ (by decide), H1.ro, H1.il⟩, by rw [hh1, hun1, List.length_eq_zero_iff.1 c67], (Nat.sub_self _).symm, .inr ⟨s1.rd, 32768 - s1.rd, by show Value.slice _ _ _ = _; rw [hz1]; rfl, Nat.zero_le _, by show s1.rd + 0 ≤ 32768; omega, (fun j x hj => by cases hj)⟩, .inr ⟨rfl, hhF1, rfl, hS⟩⟩) ?_
            exact EX.again (mu) (trivial) (hmu) (.refl _) (.cons m0 (.cons m1 .nil))
          ·
            refine CT.sub (.tl .refl) ?_
            refine CT.skip ?_
            refine EX.bnormal ?_
            refine EX.fold (A' := (blk f 1054 (D (s1)))) a0 (D_eq (by rw [← herr1, ← htv1])) ?_
            refine EX.perm p2 ?_
            refine EX.perm p2 ?_
            refine EX.perm p2 ?_
            refine EX.conv (fun _ hS => RS.toA (del := del) (ok := (· < mu)) (eof := (.iface 187 (.pointer (some ea)))) ⟨s1, i1, hist1, h1, c1, un1, H1, hh1, hu1, htr1, .inr ⟨herr1, hhF1, hun1, hS⟩⟩) ?_
            exact EX.again (mu) (trivial) (hmu) (.refl _) (.cons m0 (.cons m1 .nil))
    ·
      refine CT.fold (A' := (blk f 1054 (D ⟨s.r, s.rBuf, (s.roff), (s.b), (s.nb), s.H, s.bits, s.cbits, s.hist, (s.wr), (s.rd), (s.full), (s.b0), (s.b1), (s.b2), (s.b3), s.step, (s.ss), (s.final), (.iface 187 (.pointer (some ea))), (.slice p (c.length) (cp)), s.hl, s.hd, (s.cl), (s.cd)⟩))) a0 (D_eq (by rw [herr])) ?_
      refine CT.region ?_
      refine TL.val (r_move (.t m0)) ?_
      refine TL.val (r_nil (.t m0)) ?_
      refine TL.val (r_fa (off' := 1048) fo_103_14 (.t m0)) ?_
      refine TL.val (r_ld (v := (.iface 187 (.pointer (some ea)))) Tryz.isAgg82 m0 (.t m0) (by decide) (Dget_err _)) ?_
      refine TL.val (r_nei Tryz.underlying82 (.t m0)) ?_
      refine TL.sub (.hd (.tl (.tl (.tl (.tl .refl))))) ?_
      refine TL.nil ?_
      refine EX.seq ?_
      refine CT.ift m0 ?_
      refine CT.sub (.tl .refl) ?_
      refine CT.seq ?_
      refine CT.still fm (by kernel_rfl) ?_
      refine TS.val (r_move (.t m0)) ?_
      refine TS.val (r_nil (.t m0)) ?_
      refine TS.val (r_fa (off' := 1048) fo_103_14 (.t m0)) ?_
      refine TS.val (r_ld (v := (.iface 187 (.pointer (some ea)))) Tryz.isAgg82 m0 (.t m0) (by decide) (Dget_err _)) ?_
      refine TS.val (r_asg .c) ?_
      refine TS.val (r_asg (.t m1)) ?_
      refine TS.nil ?_
      refine TL.sub (.hd (.hd (.tl (.tl (.tl (.tl .refl)))))) ?_
      refine TL.nil ?_
      refine EX.seq ?_
      refine CT.ret ?_
      refine EX.then_ret ?_
      refine EX.bret ?_
      refine EX.then_ret ?_
      refine EX.bret ?_
      refine EX.perm p3 ?_
      refine EX.perm p3 ?_
      refine EX.perm p3 ?_
      refine EX.perm p3 ?_
      exact EX.end_ (.inl rfl) (res2 Tryz.results154 m1 m0) (fun _ hS => read_B hh hc0 hhF hun hS)
end Go.Eng
