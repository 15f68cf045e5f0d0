/- The walk of reading all. -/
import Derived.Test.YtkpadembffdepaaGreatDoorGm
namespace Go.Eng
open Go Go.Proofs Go.Infl
set_option maxRecDepth 20000
set_option linter.unusedSimpArgs false
set_option linter.unusedVariables false


theorem equal_ptr {P : Program} {t s e m : Nat} {a : Addr} {ms : Array (String × TypeId)} {info : TypeInfo} (ht : P.underlying t = some (.interface ms)) (hti : ∀ w, (typeInfo s).run P w = .ok info w) (hc : info.comparable = true) (hu : P.underlying s = some (.pointer e)) (hs : ∀ w, (Go.sizeOf e).run P w = .ok (m + 1) w) (w : World) :
    (Op.equal t (.iface s (.pointer (some a))) (.iface s (.pointer (some a)))).run P w = .ok true w := by
  have (d : Nat) : (Op.equalIn (d + 2) t (.iface s (.pointer (some a))) (.iface s (.pointer (some a)))).run P w = .ok true w := by
    simp [Op.equalIn, run_underlying ht, hti, hc, run_underlying hu, hs, sameAddr]
  exact this 9998
section
variable {G w : World} {ρ : Env} {n : Nat} {L R : List HProp} {d : Option Tmp} {pos : String} {af : Array Edge} {g : Option (Nat × Bool)} {f r hb db M : Nat} {B : List Bool} {hF del : List Nat} {eof : Value} {ok : Nat → Prop}
theorem r_eqif {t u ty : TypeId} {x y : Operand} {a : Addr} {ms : Array (String × TypeId)} (ht : Tryz.prog.underlying t = some (.interface ms)) (hx : OV ρ x (.iface 187 (.pointer (some a)))) (hy : OV ρ y (.iface 187 (.pointer (some a)))) : Run Tryz.prog G ρ n L ⟨d, .binOp .eql t x y u, ty, pos, af, g⟩ (.bool true) := fun w a' _ ha => by
  have := equal_ptr (a := a) (m := 0) ht Tryz.typeInfo187 rfl Tryz.underlying187 Tryz.sizeOf207 w
  simp [execOp, hx.eval ha, hy.eval ha, eqGuard, binOp, this]
theorem RSA_eq {del' : List Nat} (h : del = del') : ∀ m, RSA f r hb B hF eof del ok m → RSA f r hb B hF eof del' ok m := by subst h; exact fun _ h => h
theorem RSA.len (hS : Sat G w (RSA f r hb B hF eof del ok :: R)) : del.length ≤ hF.length := by
  obtain ⟨s, i, hist, h, c, un, h1, h2, h3, h4, ⟨h5, mu, h6, hS⟩ | ⟨h5, h6, h7, hS⟩⟩ := hS.rsa
  · have hd : del.length ≤ h.length := by rw [h2, List.length_append]; omega
    obtain ⟨m, hm, _⟩ := hS.obj (show Pl B hF s i h mu ∈ _ from .tail _ (.tail _ (.tail _ (List.mem_cons_self ..))))
    cases hm with
    | blk _ _ _ _ a5 => exact Nat.le_trans hd a5.len
    | @copy xs rest _ _ _ _ _ _ _ _ a7 =>
      refine Nat.le_trans hd ?_
      cases hfin : s.final with
      | true => rw [← a7.1 hfin, List.length_append]; omega
      | false =>
        obtain ⟨st, tail, _, e⟩ := a7.2 hfin
        have := e.len
        rw [List.length_append] at this; omega
  · rw [← h6, h2, List.length_append]; omega
theorem map_at {F : Nat → Value} {dn : List Nat} {j : Nat} {x : Value} (h : ∀ j x, dn[j]? = some x → F j = u8 x) (hj : (dn.map u8)[j]? = some x) : F (0 + j) = x := by
  rw [List.getElem?_map] at hj
  cases hc : dn[j]? with
  | none => rw [hc] at hj; cases hj
  | some y => rw [hc] at hj; cases hj; rw [Nat.zero_add, h j y hc]
theorem dropB {A X : HProp} (h : Sat G w (A :: X :: R)) : Sat G w (A :: R) := (h.perm p1).tail
end
theorem t66 {G : World} {ea : Addr} (hE : EOFIs G ea) {R : List HProp} {w : World} (hS : Sat G w (R)) :
    CallsR Tryz.prog 66 #[(.iface 187 (.pointer (some ea)))] w (fun v w' => v = i64 1 ∧ Sat G w' R) := by
  refine calls_in (n := 19) [(0, (.iface 187 (.pointer (some ea))))] Tryz.func66 rfl rfl hS args1 ?_
  refine CT.seq ?_
  refine CT.region ?_
  refine TL.val (r_asg .c) ?_
  refine TL.nil ?_
  refine EX.seq ?_
  refine CT.seq ?_
  refine CT.region ?_
  refine TL.w (r_alloc (F := lst [(.int .i64 0)]) Tryz.zeroValue121 rfl rfl lst_ok) ?_
  rintro _ w3 ⟨b3, rfl, hS⟩
  refine TW.at hS ?_
  refine TL.nil ?_
  refine EX.seq ?_
  refine CT.seq ?_
  refine CT.block ?_
  refine CT.seq ?_
  refine CT.region ?_
  refine TL.val (r_move (.t m2)) ?_
  refine TL.val (r_eqi Tryz.underlying82 (.t m0)) ?_
  refine TL.val (r_asg (.t m0)) ?_
  refine TL.sub (.hd (.tl (.tl .refl))) ?_
  refine TL.nil ?_
  refine EX.seq ?_
  refine CT.iff_ m0 ?_
  refine CT.sub (.tl .refl) ?_
  refine CT.seq ?_
  refine CT.region ?_
  refine TL.val (r_move (.t m2)) ?_
  refine TL.val (r_ldc (v := (.iface 187 (.pointer (some ea)))) Tryz.isAgg82 .g (fun w hS => hS.base_some hE)) ?_
  refine TL.val (r_eqif Tryz.underlying82 (.t m1) (.t m0)) ?_
  refine TL.val (r_asg (.t m0)) ?_
  refine TL.sub (.hd (.tl (.tl (.tl .refl)))) ?_
  refine TL.nil ?_
  refine EX.seq ?_
  refine CT.ift m0 ?_
  refine CT.sub (.tl .refl) ?_
  refine CT.seq ?_
  refine CT.region ?_
  refine TL.rm (.there .here) ?_
  refine TL.val (r_asg .c) ?_
  refine TL.nil ?_
  refine EX.seq ?_
  refine CT.ret ?_
  refine EX.bret ?_
  refine EX.then_ret ?_
  exact EX.end_ (.inl rfl) (res1 Tryz.results66 m0) (fun _ hS => ⟨rfl, hS.tail⟩)
theorem t41 {G : World} {f r hb M0 : Nat} {B : List Bool} {dd out : List Nat} {ea : Addr} (hE : EOFIs G ea) (hBl : B.length < 1099511627776) (ho : out.length ≤ 131072) {R : List HProp} {w : World} (hS : Sat G w ((RSA f r hb B (dd ++ out) (.iface 187 (.pointer (some ea))) (dd) (· < M0)) :: R)) :
    CallsR Tryz.prog 41 #[(.iface 107 (.pointer (some ⟨f, 0, none⟩))), (.int .i64 131072)] w (fun v w' => ∃ v1, v = .tuple #[v1, i64 1] ∧ Sat G w' (slc 1 v1 out.length (out.map u8) :: R)) := by
  refine calls_in (n := 32) [(0, (.iface 107 (.pointer (some ⟨f, 0, none⟩)))), (1, (.int .i64 131072))] Tryz.func41 rfl rfl hS args2 ?_
  refine CT.seq ?_
  refine CT.region ?_
  refine TL.val (r_asg .c) ?_
  refine TL.val (r_asg .c) ?_
  refine TL.nil ?_
  refine EX.seq ?_
  refine CT.seq ?_
  refine CT.region ?_
  refine TL.val (r_asg .c) ?_
  refine TL.nil ?_
  refine EX.seq ?_
  refine CT.seq ?_
  refine CT.region ?_
  refine TL.w (r_make (l := 1000) (c := 1000) Tryz.underlying22 Tryz.sizeOf5 ⟨_, Tryz.typeInfo5, rfl⟩ Tryz.zeroValue5 rfl .c .c rfl rfl (by omega) (by exact Nat.le_of_ble_eq_true rfl) (by omega)) ?_
  rintro _ w10 ⟨b10, rfl, hS⟩
  refine TW.at hS ?_
  refine TL.val (r_asg (.t m0)) ?_
  refine TL.sub (.hd (.tl .refl)) ?_
  refine TL.nil ?_
  refine EX.seq ?_
  refine CT.seq ?_
  refine CT.block ?_
  refine CT.nilslc 1 ?_
  refine CT.fold (A' := (RSA f r hb B (dd ++ out) (.iface 187 (.pointer (some ea))) (dd ++ (([] : List Nat))) (· < M0))) a2 (RSA_eq (by rw [List.append_nil])) ?_
  refine CT.fold (A' := (blk b10 (1000) ((fun _ => (.int .u8 0))))) a1 (blk_eq rfl rfl) ?_
  refine CT.perm p1 ?_
  refine CT.perm p2 ?_
  refine CT.perm p2 ?_
  refine CT.loop (X := List Nat × Value × Nat × (Nat → Value)) (fun gx => [(6, gx.2.1), (7, (.slice (some ⟨b10, 0, none⟩) (1000) (1000))), (0, (.iface 107 (.pointer (some ⟨f, 0, none⟩)))), (1, (.int .i64 131072))]) (fun gx => (slc 1 gx.2.1 ((gx.1).length) ((gx.1).map u8)) :: (RSA f r hb B (dd ++ out) (.iface 187 (.pointer (some ea))) (dd ++ (gx.1)) (· < gx.2.2.1)) :: (blk b10 (1000) (gx.2.2.2)) :: R) (fun gx => (gx.1).length ≤ out.length) (fun gx => out.length - (gx.1).length) ((([] : List Nat), (.slice none 0 0), M0, (fun _ => (.int .u8 0)))) (Nat.zero_le _) (.refl _) (.cons m1 (.cons m0 (.cons m4 (.cons m5 .nil)))) ?_
  rintro ⟨d, v, M, F⟩ hI
  show CT _ _ _ [(6, v), (7, (.slice (some ⟨b10, 0, none⟩) (1000) (1000))), (0, (.iface 107 (.pointer (some ⟨f, 0, none⟩)))), (1, (.int .i64 131072))] _ _ ((slc 1 v ((d).length) ((d).map u8)) :: (RSA f r hb B (dd ++ out) (.iface 187 (.pointer (some ea))) (dd ++ (d)) (· < M)) :: (blk b10 (1000) (F)) :: R)
  replace hI : d.length ≤ out.length := hI
  refine CT.seq ?_
  refine CT.seq ?_
  refine CT.region ?_
  refine TL.val (r_move (.t m0)) ?_
  refine TL.val (r_lens Tryz.underlying22 (.t m0) m0) ?_
  refine TL.val (r_move (.t m5)) ?_
  refine TL.val (n_leq ((d).length) (131072) (.t m1) (.t m0) rfl rfl) ?_
  refine TL.sub (.hd (.tl (.tl (.tl .refl)))) ?_
  refine TL.nil ?_
  refine EX.seq ?_
  refine CT.ifd m0 (fun c14 => ?_) (fun c14 => ?_)
  ·
    refine CT.sub (.tl .refl) ?_
    refine CT.skip ?_
    refine EX.seq ?_
    refine CT.block ?_
    refine CT.seq ?_
    refine CT.region ?_
    refine TL.val (r_move (.t m2)) ?_
    refine TL.val (r_move (.t m2)) ?_
    refine TL.perm p2 ?_
    refine TL.perm p2 ?_
    refine TL.call (r_inv ce_154 (.t m1) (mt_107_Read _) (.cons (.t m0) .nil)) (fun w hS => t154 hE hBl hS) ?_
    rintro _ w18 ⟨dn, e, F2, rfl, hdl, hdat, ⟨rfl, hdp, M2, hS⟩ | ⟨rfl, hfin, hS⟩⟩
    ·
      have hlen := RSA.len hS
      simp only [List.length_append] at hlen
      refine TW.at hS ?_
      refine TL.val (r_move (.t m0)) ?_
      refine TL.val (r_ext (.t m0)) ?_
      refine TL.val (r_ext (.t m1)) ?_
      refine TL.val (r_asg (.t m1)) ?_
      refine TL.val (r_asg (.t m1)) ?_
      refine TL.sub (.hd (.hd (.tl (.tl (.tl (.tl (.tl (.tl .refl)))))))) ?_
      refine TL.nil ?_
      refine EX.seq ?_
      refine CT.seq ?_
      refine CT.region ?_
      refine TL.val (r_move (.t m2)) ?_
      refine TL.val (r_move (.t m4)) ?_
      refine TL.val (r_move (.t m3)) ?_
      refine TL.val (r_slice (off' := 0) (m := dn.length) (c' := 1000) Tryz.underlying22 Tryz.sizeOf5 (.t m1) .no (.so (j := dn.length) (.t m0) rfl) (by first | (show 0 ≤ dn.length; omega) | (show dn.length ≤ 1000; omega)) (by first | (show 0 ≤ dn.length; omega) | (show dn.length ≤ 1000; omega)) (by simp) (by simp) (by simp)) ?_
      refine TL.perm p2 ?_
      refine TL.w (r_append (j := dn.length) (k := d.length) (ds := dn.map u8) el_22 Tryz.underlying22 (.t m3) (.t m0) ⟨_, _, rfl⟩ (Rds.blk m2 (by simp) (by omega) (fun j x hj => map_at hdat hj)) (ones_map one_u8) (by omega) (by omega)) ?_
      rintro v25 w25 hS
      refine TW.at hS ?_
      refine TL.fold (A' := (slc 1 v25 ((d ++ dn).length) ((d ++ dn).map u8))) a0 (slc_eq (by rw [List.length_append]) (List.map_append).symm) ?_
      refine TL.rm (.there (.there (.there (.there (.there (.there (.there .here))))))) ?_
      refine TL.val (r_asg (.t m0)) ?_
      refine TL.sub (.hd (.tl (.tl (.tl (.tl (.tl .refl)))))) ?_
      refine TL.nil ?_
      refine EX.seq ?_
      refine CT.seq ?_
      refine CT.region ?_
      refine TL.val (r_move (.t m1)) ?_
      refine TL.val (r_nen Tryz.underlying82 (.t m0)) ?_
      refine TL.sub (.hd (.tl .refl)) ?_
      refine TL.nil ?_
      refine EX.seq ?_
      refine CT.iff_ m0 ?_
      refine CT.sub (.tl .refl) ?_
      refine CT.skip ?_
      refine EX.bnormal ?_
      refine EX.fold (A' := (RSA f r hb B (dd ++ out) (.iface 187 (.pointer (some ea))) (dd ++ (d ++ dn)) (· < M2))) a1 (RSA_eq (by rw [List.append_assoc])) ?_
      exact EX.again ((d ++ dn, v25, M2, F2)) (by show (d ++ dn).length ≤ out.length; rw [List.length_append]; omega) (by show out.length - (d ++ dn).length < out.length - d.length; rw [List.length_append]; omega) (.refl _) (.cons m0 (.cons m3 (.cons m4 (.cons m5 .nil))))
    ·
      have hout : d ++ dn = out := List.append_cancel_left (by rw [← List.append_assoc]; exact hfin)
      have hlen := congrArg List.length hout
      rw [List.length_append] at hlen
      refine TW.at hS ?_
      refine TL.val (r_move (.t m0)) ?_
      refine TL.val (r_ext (.t m0)) ?_
      refine TL.val (r_ext (.t m1)) ?_
      refine TL.val (r_asg (.t m1)) ?_
      refine TL.val (r_asg (.t m1)) ?_
      refine TL.sub (.hd (.hd (.tl (.tl (.tl (.tl (.tl (.tl .refl)))))))) ?_
      refine TL.nil ?_
      refine EX.seq ?_
      refine CT.seq ?_
      refine CT.region ?_
      refine TL.val (r_move (.t m2)) ?_
      refine TL.val (r_move (.t m4)) ?_
      refine TL.val (r_move (.t m3)) ?_
      refine TL.val (r_slice (off' := 0) (m := dn.length) (c' := 1000) Tryz.underlying22 Tryz.sizeOf5 (.t m1) .no (.so (j := dn.length) (.t m0) rfl) (by first | (show 0 ≤ dn.length; omega) | (show dn.length ≤ 1000; omega)) (by first | (show 0 ≤ dn.length; omega) | (show dn.length ≤ 1000; omega)) (by simp) (by simp) (by simp)) ?_
      refine TL.perm p1 ?_
      refine TL.w (r_append (j := dn.length) (k := d.length) (ds := dn.map u8) el_22 Tryz.underlying22 (.t m3) (.t m0) ⟨_, _, rfl⟩ (Rds.blk m1 (by simp) (by omega) (fun j x hj => map_at hdat hj)) (ones_map one_u8) (by omega) (by omega)) ?_
      rintro v25 w25 hS
      refine TW.at hS ?_
      refine TL.fold (A' := (slc 1 v25 ((d ++ dn).length) ((d ++ dn).map u8))) a0 (slc_eq (by rw [List.length_append]) (List.map_append).symm) ?_
      refine TL.rm (.there (.there (.there (.there (.there (.there (.there .here))))))) ?_
      refine TL.val (r_asg (.t m0)) ?_
      refine TL.sub (.hd (.tl (.tl (.tl (.tl (.tl .refl)))))) ?_
      refine TL.nil ?_
      refine EX.seq ?_
      refine CT.seq ?_
      refine CT.region ?_
      refine TL.val (r_move (.t m1)) ?_
      refine TL.val (r_nei Tryz.underlying82 (.t m0)) ?_
      refine TL.sub (.hd (.tl .refl)) ?_
      refine TL.nil ?_
      refine EX.seq ?_
      refine CT.ift m0 ?_
      refine CT.sub (.tl .refl) ?_
      refine CT.seq ?_
      refine CT.region ?_
      refine TL.val (r_move (.t m0)) ?_
      refine TL.val (r_move (.t m2)) ?_
      refine TL.call (r_call ce_66 (.cons (.t m0) .nil)) (fun w hS => t66 hE hS) ?_
      rintro _ w30 ⟨rfl, hS⟩
      refine TW.at hS ?_
      refine TL.val (r_asg (.t m2)) ?_
      refine TL.val (r_asg (.t m1)) ?_
      refine TL.sub (.hd (.hd (.tl (.tl (.tl .refl))))) ?_
      refine TL.nil ?_
      refine EX.seq ?_
      refine CT.ret ?_
      refine EX.bret ?_
      refine EX.then_ret ?_
      refine EX.bret ?_
      refine EX.then_ret ?_
      exact EX.end_ (.inl rfl) (res2 Tryz.results41 m1 m0) (fun _ hS => ⟨v25, rfl, by rw [hout] at hS; exact dropB hS⟩)
  ·
    exfalso; omega
end Go.Eng
