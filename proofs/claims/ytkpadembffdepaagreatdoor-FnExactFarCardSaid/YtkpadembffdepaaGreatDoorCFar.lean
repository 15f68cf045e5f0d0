/- Proved: laws.FnExactFar returns true for every list of bytes and leaves what it was handed as it was, in every start in which the listed package-level variables read as the program's initialisers lay them. Conditions: those of the given card FnExactFarCardSaid, no others. -/
import Derived.Test.YtkpadembffdepaaGreatDoorKz
import Derived.Test.YtkpadembffdepaaGreatDoorK7
set_option maxRecDepth 100000
set_option maxHeartbeats 4000000
set_option linter.unusedVariables false
set_option linter.unusedSimpArgs false
namespace Go.Proofs.YtkpadembffdepaaGreatDoor.fnExactFar
open Go Go.ChangeShapes Go.WideShapes Go.ChangeAt Go.RowKit Go.Eng Go.Proofs.YtkpadembffdepaaGreatDoor
theorem walk (W : World) (v : Value) (hc : CodeOf W v) (hL : laidMetH Tryz.prog Rows.fnExactStoredRow.laid W) : CallsR Tryz.prog 6 #[v] W (fun r w' => r = .bool true ∧ Sat W w' []) := by
 obtain ⟨ea, eb, hL⟩ := laid_is hL
 exact t6 hc hL (Sat.begin W)
theorem lifted (os : Os) (started : os.Started) (H : Type) (enc : TypeId × Value → H) (F : Stop.Interp) :
 ReturnsInHanded {} Tryz.checked os 6 .any ((OpenSpec.ofChange Rows.fnExactFarSpec).preRow enc Tryz.prog Tryz.f6 Rows.fnExactFarRow.domain false Rows.fnExactFarRow.laid) (((OpenSpec.ofChange Rows.fnExactFarSpec).at F).post enc Tryz.prog Tryz.f6 false true false false) := by
 refine returnsInHanded_of_row (C := Tryz.checked) (s := OpenSpec.ofChange Rows.fnExactFarSpec) own started (by kernel_rfl) Tryz.func6
  (witness_row_at (enc := enc) (C := Tryz.checked) false (laidWorld os) #[.slice none 0 0] rfl (wit_vars os) (wit_rest os) (by kernel_rfl)
   (OpenSpec.preRow_of_cond 8 (reads os enc) (by kernel_rfl) (fun k hk => by cases hk) (by kernel_rfl) (laid_met os))) ?_
 intro W base args ds gs before hval hW _ _ _ hL _ _
 exact contract_of (s := Rows.fnExactFarSpec) rfl rfl rfl (fun _ _ _ => rfl) walk hval hW hL
theorem j_wf : Rows.fnExactFarRow.wf (OpenSpec.ofChange (OpenSpec.ofChange Rows.fnExactFarSpec).bare) = true := by kernel_rfl
theorem j_inPlace : (Rows.fnExactFarRow.inPlace == Tryz.prog.inPlace 6) = true := by kernel_rfl
theorem j_unfollowed : (Rows.fnExactFarRow.unfollowed == Tryz.prog.unfollowed 6) = true := by kernel_rfl
theorem j_recurses : (Rows.fnExactFarRow.recurses == Tryz.prog.recurses 6) = true := by kernel_rfl
theorem j_vars : (Rows.fnExactFarRow.named == Tryz.prog.varsNamed 6) = true := by kernel_rfl
theorem j_pinned : (Rows.fnExactFarRow.pinned == Rows.fnExactFarRow.pinnedBy) = true := by kernel_rfl
theorem closed : joinedFacts Tryz.pinned.checked.prog 6 Tryz.f6 (OpenSpec.ofChange Rows.fnExactFarSpec).bare Rows.fnExactFarRow = true := by
 unfold joinedFacts
 exact and2 (and2 (and2 (and2 (and2 (and2 (and2 (and2 (and2 (and2 (and2 (and2 (and2 (and2 (and2 (and2 (and2 (and2 (and2 (and2 (and2 (and2 (and2 (and2 (and2 (and2 (and2 (and2 (and2 (and2 (and2 j_wf laidOut) j_mapsRowed) (by kernel_rfl)) j_named) (by kernel_rfl)) j_stops) (by kernel_rfl)) j_stopKnobs)
  j_inPlace) j_unfollowed) j_recurses) j_vars) (by kernel_rfl)) (by kernel_rfl)) (by kernel_rfl)) (by kernel_rfl)) (by kernel_rfl)) (by kernel_rfl)) (by kernel_rfl)) (by kernel_rfl)) (by kernel_rfl)) j_plainKeys) (by kernel_rfl)) j_heard) j_enter) j_lifted) j_make) (by kernel_rfl)) j_pinned) (by kernel_rfl)) (by kernel_rfl)
theorem inst : Tryz.f6.isInstance Tryz.pinned.checked.prog Rows.fnExactFarRow.origin Rows.fnExactFarRow.targs := of_decide_eq_true (by kernel_rfl)
theorem said : Rows.FnExactFarSaid :=
 OpenClaim.holds_of_cond 6 Tryz.f6 rfl rfl rfl rfl rfl rfl rfl ⟨rfl, rfl, rfl, rfl, rfl⟩ rfl rfl rfl rfl rfl (by kernel_rfl) Tryz.func6 closed
  inst (by unfold Func.isWrapper; first | (rw [if_pos (by decide +kernel)]; kernel_rfl) | (rw [if_neg (by decide +kernel)]; exact ⟨rfl, rfl⟩))
  (fun os started H enc _ F => by rw [OpenClaim.pre_eq_preRow]; exact lifted os started H enc F)
theorem plain (f : FuncId) (fn : Func) (hf : Tryz.pinned.checked.prog.funcNamed "loop.example/pub-inflation/laws.FnExactFar" = some f) (hfn : Tryz.pinned.checked.prog.funcs[f]? = some fn) :
 true = Tryz.pinned.checked.prog.looks [] ∧ ∀ (j : Nat) t, fn.params[j]? = some t → Tryz.pinned.checked.prog.wantsStandIn t = false := by
 obtain rfl : f = 6 := Option.some.inj ((show Tryz.prog.funcNamed "loop.example/pub-inflation/laws.FnExactFar" = some 6 by kernel_rfl).symm.trans hf) |>.symm
 obtain rfl : fn = Tryz.f6 := (Option.some.inj (Tryz.func6.symm.trans hfn)).symm
 refine ⟨by kernel_rfl, fun j t ht => ?_⟩
 rw [Tryz.params6] at ht
 obtain rfl : t = 22 := by simpa using Array.mem_of_getElem? ht
 exact (show Tryz.prog.wantsStandIn 22 = false by kernel_rfl)
theorem card : Rows.FnExactFarCardSaid :=
 Claim7.holds_tied_plain_at .later [] _ _ _ _ said (fun _ h => by cases h) (by kernel_rfl) (fun _ h => by cases h) fnExactFar_row_tie rfl ⟨rfl, rfl⟩ (by kernel_rfl) rfl plain (by kernel_rfl)
end Go.Proofs.YtkpadembffdepaaGreatDoor.fnExactFar
