/- From a walk of a law to what its row says. -/
import Derived.Test.YtkpadembffdepaaGreatDoorLa
import Derived.Test.YtkpadembffdepaaGreatDoorCards
import Derived.Test.YtkpadembffdepaaGreatDoorTie
import Derived.WalkKit
import Derived.ProofKit
import Derived.OpenShut
import Derived.Deep.DeepHandedRow
import Derived.Deep.Modes
import Derived.Deep.Frames
import Derived.Lib.LaidTab
import Derived.LaidHandle
import Derived.ChangeVars
import Derived.LaidByText
namespace Go.Proofs.YtkpadembffdepaaGreatDoor
open Go Go.ChangeShapes Go.WideShapes Go.ChangeAt Go.RowKit Go.Eng
set_option maxRecDepth 100000

theorem own : ownKnob Tryz.prog.godebug = none := by kernel_rfl
theorem gEOF : Tryz.prog.globalNamed "io.EOF" = some 0 := by kernel_rfl
theorem gEOFt : (Tryz.prog.globals[0]?).map (·.type) = some 82 := by kernel_rfl
theorem cells5 : Tryz.prog.cellsOf 5 = 1 := by kernel_rfl
theorem laidFlat : (Rows.fnExactStoredRow.laid.filter fun x => x.2.handleName?.isNone) = [("io.ErrShortBuffer", Rows.laid_io_ErrShortBuffer), ("io.EOF", Rows.laid_io_EOF), ("io.ErrUnexpectedEOF", Rows.laid_io_ErrUnexpectedEOF), ("loop.example/pub-inflation/pub/inflate.codeOrder", Rows.laid_loop_example_pub_inflation_pub_inflate_codeOrder)] := by kernel_rfl
theorem laidHand : (Rows.fnExactStoredRow.laid.filter fun x => x.2.handleName?.isSome) = [("errors.errorType", Rows.laid_errors_errorType)] := by kernel_rfl
theorem laid_flat {W : World} (h : laidMetH Tryz.prog Rows.fnExactStoredRow.laid W) : laidMet Tryz.prog [("io.ErrShortBuffer", Rows.laid_io_ErrShortBuffer), ("io.EOF", Rows.laid_io_EOF), ("io.ErrUnexpectedEOF", Rows.laid_io_ErrUnexpectedEOF), ("loop.example/pub-inflation/pub/inflate.codeOrder", Rows.laid_loop_example_pub_inflation_pub_inflate_codeOrder)] W := by
  unfold laidMetH at h
  rw [laidHand, laidFlat] at h
  exact h.1
theorem star : "*" ++ "errors.errorString" = "*errors.errorString" := by decide
theorem row187 (u : TypeId) (h : Tryz.prog.typeName? 3 u = some "*errors.errorString") : u = 187 :=
  typeName_ptr_named (nm := "errors.errorString") (by rw [star]; kernel_rfl) (by kernel_rfl) (by decide) u (by rw [star]; exact h)
/-- A sentinel's cell. -/
theorem sentinel_cell {W : World} {g : Nat} {cs : Array Value} {fuel : Nat} {p : List MemPlace} {s : List UInt8} {n : String} (hg : Tryz.prog.globalNamed n = some g) (hvar : W.var? Tryz.prog n = some cs)
    (hd : DataW.trod (fun _ => ()) Tryz.prog W 0 (fun _ => true) false fuel 82 cs.toList = some (.iface "*errors.errorString" (.ptr (.agg [.lit (.string s)])), p))
    (hok : ∀ u v, W.cell? ⟨g, 0, none⟩ = some (.iface u v) → Value.okWide Tryz.prog W .any 0 u v) : ∃ ea, W.cell? ⟨g, 0, none⟩ = some (.iface 187 (.pointer (some ea))) := by
  cases fuel with
  | zero => simp [DataW.trod] at hd
  | succ fuel =>
    rcases hcs : cs.toList with _ | ⟨x, _ | ⟨y, l⟩⟩
    · rw [hcs] at hd; simp [DataW.trod, Tryz.underlying82] at hd
    · rw [hcs] at hd
      have hc0 : W.cell? ⟨g, 0, none⟩ = some x := by
        have := World.var?_cell hg hvar 0
        rw [this, ← Array.getElem?_toList, hcs]; rfl
      cases x with
      | iface u v =>
        simp only [DataW.trod, Tryz.underlying82] at hd
        cases hn : Tryz.prog.typeName? 3 u with
        | none => rw [hn] at hd; cases hd
        | some name =>
          rw [hn] at hd
          simp only [Option.map_eq_some_iff] at hd
          obtain ⟨y, hy, he⟩ := hd
          simp only [Prod.mk.injEq, DataW.iface.injEq] at he
          obtain ⟨⟨rfl, he1⟩, he2⟩ := he
          obtain rfl := row187 u hn
          obtain ⟨a0, rfl⟩ := okWide_pointer Tryz.underlying187 (hok _ _ hc0)
          cases a0 with
          | some ea => exact ⟨ea, hc0⟩
          | none =>
            exfalso
            cases fuel with
            | zero => simp [DataW.trod] at hy
            | succ fuel =>
              simp [DataW.trod, Tryz.underlying187, Value.cells] at hy
              rw [← hy] at he1
              cases he1
      | _ => simp [DataW.trod, Tryz.underlying82] at hd
    · rw [hcs] at hd; simp [DataW.trod, Tryz.underlying82] at hd
theorem eof_of_laid {W : World} (h : laidMetH Tryz.prog Rows.fnExactStoredRow.laid W) : ∃ ea, EOFIs W ea := by
  obtain ⟨ps, ⟨_, _, _, _, _, _, _, _, _, _, ⟨g, t, cs, fuel, p, q, hg, ht, hvar, hd, _, hps1⟩, hps0⟩, _, hok⟩ := laid_flat h
  obtain rfl := Option.some.inj (gEOF.symm.trans hg)
  obtain rfl := Option.some.inj (gEOFt.symm.trans ht)
  refine sentinel_cell hg hvar hd fun u v hc => ?_
  refine (hok 0 0 ?_).2 u v hc
  have hsz : 0 < cs.size := by
    rcases Nat.eq_zero_or_pos cs.size with h0 | h0
    · have := World.var?_cell hg hvar 0
      rw [Array.getElem?_eq_none (by omega)] at this
      rw [this] at hc; cases hc
    · exact h0
  rw [hps0, hps1]
  simp only [List.mem_append, MemPlace.row, List.mem_map, List.mem_range]
  exact .inr (.inl (.inl ⟨0, hsz, rfl⟩))
/-- The argument, opened. -/
theorem code_of_arg {W : World} {base : Nat} {H : Type} {enc : TypeId × Value → H} {v : Value} {d : DataW H} {p : List MemPlace} (hval : Value.okWide Tryz.prog W .any base 22 v) (hd : DataW.Trod enc Tryz.prog W 0 (fun _ => true) true 22 v d p) :
    CodeOf W v ∧ ∀ (W' : World) (sp : Nat → Bool), (∀ x ∈ p, W.sameAt W' x) → (∀ x ∈ p, sp x.block = true) → DataW.Trod enc Tryz.prog W' 0 sp true 22 v d p := by
  obtain ⟨a1, len, cap, rfl⟩ := okWide_slice Tryz.underlying22 hval
  obtain ⟨fuel, hf⟩ := hd
  rcases open_ints Tryz.underlying22 Tryz.underlying5 cells5 hf with ⟨hcs, hx⟩ | ⟨a, len', cap', zs, hcs, _, hl, hm, hz, hx, hcell, hwz⟩
  · simp [Value.cells] at hcs
    obtain ⟨rfl, rfl, rfl⟩ := hcs
    simp only [Prod.mk.injEq] at hx
    obtain ⟨rfl, rfl⟩ := hx
    exact ⟨.inl rfl, fun W' sp _ _ => shut_slice_nil Tryz.underlying22⟩
  · simp [Value.cells] at hcs
    obtain ⟨rfl, rfl, rfl⟩ := hcs
    simp only [Prod.mk.injEq] at hx
    obtain ⟨rfl, rfl⟩ := hx
    simp only [if_true] at hz
    have hspot : a.spot = none := by
      simp only [Value.okWide, Tryz.underlying22, Cell.okWide, Cell.ok] at hval
      exact hval.2.2.2.1
    obtain ⟨b, off, spot⟩ := a
    obtain rfl : spot = none := hspot
    have hc : ∀ j, j < zs.length → W.cell? ⟨b, off + j, none⟩ = some (.int .u8 (zs.getD j 0)) := fun j hj => by rw [← add_plain]; exact hcell j hj
    have hu : ∀ n ∈ zs, 0 ≤ n ∧ n < 256 := fun n hn => by
      have := hwz n hn
      simp [Lit.wf, IntKind.min, IntKind.max, IntKind.signed, IntKind.bits] at this
      omega
    refine ⟨.inr ⟨b, off, cap, (zs.take len).map Int.toNat, ?_, ?_, ?_, ?_⟩, fun W' sp hs hsp => ⟨2, ?_⟩⟩
    · rw [List.length_map, List.length_take, Nat.min_eq_left (by omega)]
    · rw [List.length_map, List.length_take]; omega
    · intro x hx
      obtain ⟨n, hn, rfl⟩ := List.mem_map.1 hx
      have := hu n (List.mem_of_mem_take hn)
      omega
    · intro j x hj
      rw [List.getElem?_map, List.getElem?_take] at hj
      split at hj
      · cases hz2 : zs[j]? with
        | none => rw [hz2] at hj; cases hj
        | some n =>
          rw [hz2] at hj
          have hx : n.toNat = x := Option.some.inj hj
          subst hx
          obtain ⟨hlt, hn⟩ := List.getElem?_eq_some_iff.1 hz2
          rw [hc j hlt, List.getD_eq_getElem?_getD, hz2]
          have := hu n (List.mem_of_getElem? hz2)
          show some (Value.int .u8 n) = some (Value.int .u8 (n.toNat : Int))
          rw [Int.toNat_of_nonneg this.1]
      · cases hj
    · refine shut_ints' 0 Tryz.underlying22 Tryz.underlying5 cells5 (Nat.zero_le _) hl hm ?_ ?_ hwz
      · rw [hz]
        rcases Nat.eq_zero_or_pos cap with h0 | h0
        · split <;> omega
        · rw [if_pos (show sp b = true from hsp (.cell b off) (by simp only [MemPlace.row, List.mem_map, List.mem_range]; exact ⟨0, by omega, rfl⟩))]
      · intro j hj
        have := hs (.cell b (off + j)) (by simp only [MemPlace.row, List.mem_map, List.mem_range]; exact ⟨j, hj, rfl⟩)
        rw [show W'.cell? ⟨b, off + j, none⟩ = W.cell? ⟨b, off + j, none⟩ from this]
        exact hc j hj
end Go.Proofs.YtkpadembffdepaaGreatDoor
