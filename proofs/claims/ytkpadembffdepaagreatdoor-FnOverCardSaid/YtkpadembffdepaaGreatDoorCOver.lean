/- Proved: laws.FnOver returns true for every list of bytes and leaves what it was handed as it was, in every start in which the listed package-level variables read as the program's initialisers lay them. Conditions: those of the given card FnOverCardSaid, no others. -/
import Derived.Test.YtkpadembffdepaaGreatDoorKz
import Derived.Test.YtkpadembffdepaaGreatDoorK9
set_option maxRecDepth 100000
set_option maxHeartbeats 4000000
set_option linter.unusedVariables false
set_option linter.unusedSimpArgs false
namespace Go.Proofs.YtkpadembffdepaaGreatDoor.fnOver
open Go Go.ChangeShapes Go.WideShapes Go.ChangeAt Go.RowKit Go.Eng Go.Proofs.YtkpadembffdepaaGreatDoor
theorem walk (W : World) (v : Value) (hc : CodeOf W v) (hL : laidMetH Tryz.prog Rows.fnExactStoredRow.laid W) : CallsR Tryz.prog 13 #[v] W (fun r w' => r = .bool true ∧ Sat W w' []) := by
 obtain ⟨ea, eb, hL⟩ := laid_is hL
 exact t13 hc hL (Sat.begin W)
theorem lifted (os : Os) (started : os.Started) (H : Type) (enc : TypeId × Value → H) (F : Stop.Interp) :
 ReturnsInHanded {} Tryz.checked os 13 .any ((OpenSpec.ofChange Rows.fnOverSpec).preRow enc Tryz.prog Tryz.f13 Rows.fnOverRow.domain false Rows.fnOverRow.laid) (((OpenSpec.ofChange Rows.fnOverSpec).at F).post enc Tryz.prog Tryz.f13 false true false false) := by
 refine returnsInHanded_of_row (C := Tryz.checked) (s := OpenSpec.ofChange Rows.fnOverSpec) own started (by kernel_rfl) Tryz.func13
  (witness_row_at (enc := enc) (C := Tryz.checked) false (laidWorld os) #[.slice none 0 0] rfl (wit_vars os) (wit_rest os) (by kernel_rfl)
   (OpenSpec.preRow_of_cond 8 (reads os enc) (by kernel_rfl) (fun k hk => by cases hk) (by kernel_rfl) (laid_met os))) ?_
 intro W base args ds gs before hval hW _ _ _ hL _ _
 exact contract_of (s := Rows.fnOverSpec) rfl rfl rfl (fun _ _ _ => rfl) walk hval hW hL
theorem j_wf : Rows.fnOverRow.wf (OpenSpec.ofChange (OpenSpec.ofChange Rows.fnOverSpec).bare) = true := by kernel_rfl
theorem j_inPlace : (Rows.fnOverRow.inPlace == Tryz.prog.inPlace 13) = true := by kernel_rfl
theorem j_unfollowed : (Rows.fnOverRow.unfollowed == Tryz.prog.unfollowed 13) = true := by kernel_rfl
theorem j_recurses : (Rows.fnOverRow.recurses == Tryz.prog.recurses 13) = true := by kernel_rfl
theorem j_vars : (Rows.fnOverRow.named == Tryz.prog.varsNamed 13) = true := by kernel_rfl
theorem j_pinned : (Rows.fnOverRow.pinned == Rows.fnOverRow.pinnedBy) = true := by kernel_rfl
theorem closed : joinedFacts Tryz.pinned.checked.prog 13 Tryz.f13 (OpenSpec.ofChange Rows.fnOverSpec).bare Rows.fnOverRow = true := by
 unfold joinedFacts
 exact and2 (and2 (and2 (and2 (and2 (and2 (and2 (and2 (and2 (and2 (and2 (and2 (and2 (and2 (and2 (and2 (and2 (and2 (and2 (and2 (and2 (and2 (and2 (and2 (and2 (and2 (and2 (and2 (and2 (and2 (and2 j_wf laidOut) j_mapsRowed) (by kernel_rfl)) j_named) (by kernel_rfl)) j_stops) (by kernel_rfl)) j_stopKnobs)
  j_inPlace) j_unfollowed) j_recurses) j_vars) (by kernel_rfl)) (by kernel_rfl)) (by kernel_rfl)) (by kernel_rfl)) (by kernel_rfl)) (by kernel_rfl)) (by kernel_rfl)) (by kernel_rfl)) (by kernel_rfl)) j_plainKeys) (by kernel_rfl)) j_heard) j_enter) j_lifted) j_make) (by kernel_rfl)) j_pinned) (by kernel_rfl)) (by kernel_rfl)
theorem inst : Tryz.f13.isInstance Tryz.pinned.checked.prog Rows.fnOverRow.origin Rows.fnOverRow.targs := of_decide_eq_true (by kernel_rfl)
theorem said : Rows.FnOverSaid :=
 OpenClaim.holds_of_cond 13 Tryz.f13 rfl rfl rfl rfl rfl rfl rfl ⟨rfl, rfl, rfl, rfl, rfl⟩ rfl rfl rfl rfl rfl (by kernel_rfl) Tryz.func13 closed
  inst (by unfold Func.isWrapper; first | (rw [if_pos (by decide +kernel)]; kernel_rfl) | (rw [if_neg (by decide +kernel)]; exact ⟨rfl, rfl⟩))
  (fun os started H enc _ F => by rw [OpenClaim.pre_eq_preRow]; exact lifted os started H enc F)
theorem plain (f : FuncId) (fn : Func) (hf : Tryz.pinned.checked.prog.funcNamed "loop.example/pub-inflation/laws.FnOver" = some f) (hfn : Tryz.pinned.checked.prog.funcs[f]? = some fn) :
 true = Tryz.pinned.checked.prog.looks [] ∧ ∀ (j : Nat) t, fn.params[j]? = some t → Tryz.pinned.checked.prog.wantsStandIn t = false := by
 obtain rfl : f = 13 := Option.some.inj ((show Tryz.prog.funcNamed "loop.example/pub-inflation/laws.FnOver" = some 13 by kernel_rfl).symm.trans hf) |>.symm
 obtain rfl : fn = Tryz.f13 := (Option.some.inj (Tryz.func13.symm.trans hfn)).symm
 refine ⟨by kernel_rfl, fun j t ht => ?_⟩
 rw [Tryz.params13] at ht
 obtain rfl : t = 22 := by simpa using Array.mem_of_getElem? ht
 exact (show Tryz.prog.wantsStandIn 22 = false by kernel_rfl)
theorem card : Rows.FnOverCardSaid :=
 Claim7.holds_tied_plain_at .later [] _ _ _ _ said (fun _ h => by cases h) (by kernel_rfl) (fun _ h => by cases h) fnOver_row_tie rfl ⟨rfl, rfl⟩ (by kernel_rfl) rfl plain (by kernel_rfl)
end Go.Proofs.YtkpadembffdepaaGreatDoor.fnOver
