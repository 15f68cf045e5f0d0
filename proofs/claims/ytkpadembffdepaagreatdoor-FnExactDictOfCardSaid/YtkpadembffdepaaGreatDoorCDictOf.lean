/- Proved: laws.FnExactDictOf returns true for every list of bytes and leaves what it was handed as it was, in every start in which the listed package-level variables read as the program's initialisers lay them. Conditions: those of the given card FnExactDictOfCardSaid, no others. -/
import Derived.Test.YtkpadembffdepaaGreatDoorKz
import Derived.Test.YtkpadembffdepaaGreatDoorK7
set_option maxRecDepth 100000
set_option maxHeartbeats 4000000
set_option linter.unusedVariables false
set_option linter.unusedSimpArgs false
namespace Go.Proofs.YtkpadembffdepaaGreatDoor.fnExactDictOf
open Go Go.ChangeShapes Go.WideShapes Go.ChangeAt Go.RowKit Go.Eng Go.Proofs.YtkpadembffdepaaGreatDoor
theorem walk (W : World) (v : Value) (hc : CodeOf W v) (hL : laidMetH Tryz.prog Rows.fnExactStoredRow.laid W) : CallsR Tryz.prog 4 #[v] W (fun r w' => r = .bool true ∧ Sat W w' []) := by
 obtain ⟨ea, eb, hL⟩ := laid_is hL
 exact t4 hc hL (Sat.begin W)
theorem lifted (os : Os) (started : os.Started) (H : Type) (enc : TypeId × Value → H) (F : Stop.Interp) :
 ReturnsInHanded {} Tryz.checked os 4 .any ((OpenSpec.ofChange Rows.fnExactDictOfSpec).preRow enc Tryz.prog Tryz.f4 Rows.fnExactDictOfRow.domain false Rows.fnExactDictOfRow.laid) (((OpenSpec.ofChange Rows.fnExactDictOfSpec).at F).post enc Tryz.prog Tryz.f4 false true false false) := by
 refine returnsInHanded_of_row (C := Tryz.checked) (s := OpenSpec.ofChange Rows.fnExactDictOfSpec) own started (by kernel_rfl) Tryz.func4
  (witness_row_at (enc := enc) (C := Tryz.checked) false (laidWorld os) #[.slice none 0 0] rfl (wit_vars os) (wit_rest os) (by kernel_rfl)
   (OpenSpec.preRow_of_cond 8 (reads os enc) (by kernel_rfl) (fun k hk => by cases hk) (by kernel_rfl) (laid_met os))) ?_
 intro W base args ds gs before hval hW _ _ _ hL _ _
 exact contract_of (s := Rows.fnExactDictOfSpec) rfl rfl rfl (fun _ _ _ => rfl) walk hval hW hL
theorem j_wf : Rows.fnExactDictOfRow.wf (OpenSpec.ofChange (OpenSpec.ofChange Rows.fnExactDictOfSpec).bare) = true := by kernel_rfl
theorem j_inPlace : (Rows.fnExactDictOfRow.inPlace == Tryz.prog.inPlace 4) = true := by kernel_rfl
theorem j_unfollowed : (Rows.fnExactDictOfRow.unfollowed == Tryz.prog.unfollowed 4) = true := by kernel_rfl
theorem j_recurses : (Rows.fnExactDictOfRow.recurses == Tryz.prog.recurses 4) = true := by kernel_rfl
theorem j_vars : (Rows.fnExactDictOfRow.named == Tryz.prog.varsNamed 4) = true := by kernel_rfl
theorem j_pinned : (Rows.fnExactDictOfRow.pinned == Rows.fnExactDictOfRow.pinnedBy) = true := by kernel_rfl
theorem closed : joinedFacts Tryz.pinned.checked.prog 4 Tryz.f4 (OpenSpec.ofChange Rows.fnExactDictOfSpec).bare Rows.fnExactDictOfRow = true := by
 unfold joinedFacts
 exact and2 (and2 (and2 (and2 (and2 (and2 (and2 (and2 (and2 (and2 (and2 (and2 (and2 (and2 (and2 (and2 (and2 (and2 (and2 (and2 (and2 (and2 (and2 (and2 (and2 (and2 (and2 (and2 (and2 (and2 (and2 j_wf laidOut) j_mapsRowed) (by kernel_rfl)) j_named) (by kernel_rfl)) j_stops) (by kernel_rfl)) j_stopKnobs)
  j_inPlace) j_unfollowed) j_recurses) j_vars) (by kernel_rfl)) (by kernel_rfl)) (by kernel_rfl)) (by kernel_rfl)) (by kernel_rfl)) (by kernel_rfl)) (by kernel_rfl)) (by kernel_rfl)) (by kernel_rfl)) j_plainKeys) (by kernel_rfl)) j_heard) j_enter) j_lifted) j_make) (by kernel_rfl)) j_pinned) (by kernel_rfl)) (by kernel_rfl)
theorem inst : Tryz.f4.isInstance Tryz.pinned.checked.prog Rows.fnExactDictOfRow.origin Rows.fnExactDictOfRow.targs := of_decide_eq_true (by kernel_rfl)
theorem said : Rows.FnExactDictOfSaid :=
 OpenClaim.holds_of_cond 4 Tryz.f4 rfl rfl rfl rfl rfl rfl rfl ⟨rfl, rfl, rfl, rfl, rfl⟩ rfl rfl rfl rfl rfl (by kernel_rfl) Tryz.func4 closed
  inst (by unfold Func.isWrapper; first | (rw [if_pos (by decide +kernel)]; kernel_rfl) | (rw [if_neg (by decide +kernel)]; exact ⟨rfl, rfl⟩))
  (fun os started H enc _ F => by rw [OpenClaim.pre_eq_preRow]; exact lifted os started H enc F)
theorem plain (f : FuncId) (fn : Func) (hf : Tryz.pinned.checked.prog.funcNamed "loop.example/pub-inflation/laws.FnExactDictOf" = some f) (hfn : Tryz.pinned.checked.prog.funcs[f]? = some fn) :
 true = Tryz.pinned.checked.prog.looks [] ∧ ∀ (j : Nat) t, fn.params[j]? = some t → Tryz.pinned.checked.prog.wantsStandIn t = false := by
 obtain rfl : f = 4 := Option.some.inj ((show Tryz.prog.funcNamed "loop.example/pub-inflation/laws.FnExactDictOf" = some 4 by kernel_rfl).symm.trans hf) |>.symm
 obtain rfl : fn = Tryz.f4 := (Option.some.inj (Tryz.func4.symm.trans hfn)).symm
 refine ⟨by kernel_rfl, fun j t ht => ?_⟩
 rw [Tryz.params4] at ht
 obtain rfl : t = 22 := by simpa using Array.mem_of_getElem? ht
 exact (show Tryz.prog.wantsStandIn 22 = false by kernel_rfl)
theorem card : Rows.FnExactDictOfCardSaid :=
 Claim7.holds_tied_plain_at .later [] _ _ _ _ said (fun _ h => by cases h) (by kernel_rfl) (fun _ h => by cases h) fnExactDictOf_row_tie rfl ⟨rfl, rfl⟩ (by kernel_rfl) rfl plain (by kernel_rfl)
end Go.Proofs.YtkpadembffdepaaGreatDoor.fnExactDictOf
