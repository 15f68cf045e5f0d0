/- The contract that every row asks, from a walk. -/
import Derived.Test.YtkpadembffdepaaGreatDoorLb
namespace Go.Proofs.YtkpadembffdepaaGreatDoor
open Go Go.ChangeShapes Go.WideShapes Go.ChangeAt Go.RowKit Go.Eng
set_option maxRecDepth 100000

theorem same_of_sat {W W' : World} {L : List HProp} (h : Sat W W' L) {p : MemPlace} (hb : p.block < W.heap.size) : W.sameAt W' p := by
  cases p with
  | cell b o =>
    have := h.base b hb
    simp [World.sameAt, World.cell?, this]
  | map b =>
    have := h.base b hb
    simp [World.sameAt, this]
theorem var_of_sat {W W' : World} {L : List HProp} {n : String} {cs : Array Value} (h : Sat W W' L) (hv : W.var? Tryz.prog n = some cs) : W'.var? Tryz.prog n = some cs := by
  unfold World.var? at hv ⊢
  cases hg : Tryz.prog.globalNamed n with
  | none => rw [hg] at hv; cases hv
  | some g =>
    rw [hg] at hv
    simp only [Option.bind_some] at hv ⊢
    have hlt : g < W.heap.size := by
      rcases Nat.lt_or_ge g W.heap.size with h1 | h1
      · exact h1
      · rw [Array.getElem?_eq_none h1] at hv; cases hv
    rw [h.base g hlt]
    exact hv
theorem gOrdt : (Tryz.prog.globals[3]?).map (·.type) = some 106 := by kernel_rfl
theorem gOrd : Tryz.prog.globalNamed "loop.example/pub-inflation/pub/inflate.codeOrder" = some 3 := by kernel_rfl
theorem laidOut : laidOutB Tryz.prog = true := by kernel_rfl
theorem read106 : Tryz.prog.readableRec 106 = true := by kernel_rfl
theorem row106 : 106 < Tryz.prog.types.size := of_decide_eq_true (by kernel_rfl)
theorem sl106 : Tryz.prog.slicesRec 106 = false := by kernel_rfl
theorem if106 : Tryz.prog.ifacesRec 106 = false := by kernel_rfl
theorem ve106 : Tryz.prog.veiledRec 106 = false := by kernel_rfl

theorem contract_of {f : FuncId} {fn : Func} {s : ChangeSpec} (hp : fn.params = #[22]) (hr : fn.resultTypes = #[4]) (hv : s.vars = ["loop.example/pub-inflation/pub/inflate.codeOrder"])
    (hs : ∀ (H : Type) (d g1 : DataW H), s.fn H [d, g1] = { results := [.lit (.bool true)], args := [d], vars := [g1] })
    (walk : ∀ (W : World) (v : Value), CodeOf W v → laidMetH Tryz.prog Rows.fnExactStoredRow.laid W → CallsR Tryz.prog f #[v] W (fun r w' => r = .bool true ∧ Sat W w' []))
    {H : Type} {enc : TypeId × Value → H} {W : World} {base : Nat} {args : Array Value} {ds gs : List (DataW H)} {before : List MemPlace} {fresh handsOn again : Bool}
    (hval : ∀ (j : Nat) t v, fn.params[j]? = some t → args[j]? = some v → Value.okWide Tryz.prog W .any base t v)
    (hW : DataW.Whole enc Tryz.prog fn.params.toList s.vars false W args.toList ds gs before) (hL : laidMetH Tryz.prog Rows.fnExactStoredRow.laid W) :
    Calls Tryz.prog f args W fun e W' => ∃ v, e = .returned v ∧ s.post enc Tryz.prog fn false fresh handsOn again W args v W' := by
  have hW' := hW
  obtain ⟨p, q, hA0, hV, rfl, hfz, hnd⟩ := hW
  have hA : DataW.TrodAll enc Tryz.prog W 0 (fun _ => true) true fn.params.toList args.toList ds p := hA0
  rw [hp] at hA hval
  obtain ⟨v0, vs0, d0, ds0, p0, q0, hargs, rfl, rfl, h0, r0⟩ := trodAll_cons hA
  obtain ⟨rfl, rfl, rfl⟩ := trodAll_nil r0
  obtain rfl : args = #[v0] := by cases args; simp_all
  rw [hv] at hV
  obtain ⟨g, t, cs, fuel, d1, pv, rfl, hg, ht, hvar, hd1, rfl⟩ := trodVars_one hV
  obtain rfl := Option.some.inj (gOrd.symm.trans hg)
  obtain rfl := Option.some.inj (gOrdt.symm.trans ht)
  obtain ⟨hc, hre⟩ := code_of_arg (hval 0 22 v0 rfl rfl) h0
  have hlt := hW'.lt
  refine Calls.mono (walk W v0 hc hL) fun e W' he => ?_
  cases e with
  | returned r =>
    obtain ⟨rfl, hS⟩ := he
    have e1 : s.fn H ([d0] ++ [d1]) = { results := [.lit (.bool true)], args := [d0], vars := [d1] } := hs H d0 d1
    refine ⟨_, rfl, post_of_same (pa := p0 ++ []) (pv := MemPlace.row ⟨3, 0, none⟩ cs.size ++ pv) hW' ?_ ?_ ?_ rfl (hS.grown.frame _) hS.grown.2.1 ?_⟩
    · intro b sp hd
      rw [e1, hr]
      exact trodAll_cons_mk (shut_bool Tryz.underlying4 _) trodAll_mk0
    · intro sp hsp
      rw [e1, hp]
      refine trodAll_cons_mk (hre W' sp (fun x hx => same_of_sat hS (hlt x ?_)) (fun x hx => hsp x ?_)) trodAll_mk0
      · simp [hx]
      · simp [hx]
    · intro sp hsp
      rw [e1, hv]
      exact trodVars_mk1 gOrd gOrdt (var_of_sat hS hvar) (trod_any laidOut read106 row106 sl106 if106 hd1 (fun x hx => same_of_sat hS (hlt x (by simp [show x ∈ pv from hx]))) ve106)
    · exact ok_one (f := fn) hr (by first | rfl | (rw [hr]; rfl)) (okWide_bool_mk Tryz.underlying4 _)
  | _ => exact he.elim
end Go.Proofs.YtkpadembffdepaaGreatDoor
