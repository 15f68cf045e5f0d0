/- Operations of this seat's walks that make or write much: append, copy, make, maps. -/
import Derived.Test.YtkpadembffdepaaGreatDoorEd
namespace Go.Eng
open Go

theorem growBy_le {need M : Nat} (hM : need + (need + 768) / 4 ≤ M) : ∀ r c, c ≤ M → Builtin.growBy need r c ≤ M := by
  intro r
  induction r with
  | zero => intro c h; exact h
  | succ r ih =>
    intro c h
    unfold Builtin.growBy
    split
    · exact h
    · exact ih _ (by omega)
theorem nextslicecap_le {need c : Nat} (h : c < need) : Builtin.nextslicecap need c ≤ 2 * need + 192 := by
  unfold Builtin.nextslicecap
  split
  · omega
  · split
    · omega
    · exact growBy_le (by omega) _ _ (by omega)

/-- A slice type's element: its cells, its bytes. -/
structure EL (P : Program) (t e s bt : Nat) : Prop where
  ut : P.underlying t = some (.slice e)
  sz : ∀ w, (sizeOf e).run P w = .ok s w
  ti : ∃ info : TypeInfo, (∀ w, (typeInfo e).run P w = .ok info w) ∧ info.bytes = bt
  zv : ∃ z, (∀ w, (zeroValue e).run P w = .ok z w) ∧ z.cells.size = s

section
variable {P : Program} {G : World} {ρ : Env} {n : Nat} {L L' R : List HProp} {d : Option Tmp} {ty : TypeId} {pos : String} {af : Array Edge} {g : Option (Nat × Bool)} {v : Value}

theorem choose_run (q : Question) (w : World) : ∃ c w', (choose q).run P w = .ok c w' ∧ w'.heap = w.heap ∧ w'.os = w.os ∧ w'.output = w.output ∧ (q.forced = false → c = q.cut (w.tape w.drawn q)) := by
  unfold choose
  simp only [Sem.run]
  split
  · rename_i h; exact ⟨_, _, rfl, rfl, rfl, rfl, fun h' => by rw [h] at h'; cases h'⟩
  · exact ⟨_, _, rfl, rfl, rfl, rfl, fun _ => rfl⟩
theorem Sat.heap {w w' : World} (h : Sat G w L) (h1 : w'.heap = w.heap) (h2 : w'.os = w.os) (h3 : w'.output = w.output) : Sat G w' L := by
  refine ⟨fun b hb => by rw [h1]; exact h.base b hb, by rw [h1]; exact h.size, by rw [h2]; exact h.os, by rw [h3]; exact h.output, fun b c t f hb hc => h.calm b c t f hb (by rw [← h1]; exact hc), ?_⟩
  have : own G w' = own G w := by funext b; unfold own; rw [h1]
  rw [this]; exact h.sat
theorem run_askRoom (k : Nat) (w : World) : (askRoom k).run P w = .ok () w := by
  unfold askRoom
  split <;> rfl

theorem size_zeroCells (cs : Array Value) (k : Nat) : (Builtin.zeroCells cs k).size = k * cs.size := by simp [Builtin.zeroCells]
theorem run_append_grow {t t2 e2 e s bt k j cap : Nat} {base : Option Addr} {xv z : Value} {os ds : List Value} (hE : EL P t e s bt) (hz : ∀ w, (zeroValue e).run P w = .ok z w) (h2 : P.underlying t2 = some (.slice e2)) {w : World}
    (hxs : ∃ p c, xv = .slice p j c) (hg : cap < k + j) (hb : (2 * (k + j) + 192) * bt ≤ 2 ^ 48) (hk : k + j < 2 ^ 62)
    (ho : ∀ w' : World, w'.heap = w.heap → w'.os = w.os → w'.output = w.output → (Builtin.firstCells s k (.slice base k cap)).run P w' = .ok os.toArray w')
    (hx : ∀ w' : World, w'.heap = w.heap → w'.os = w.os → w'.output = w.output → (Builtin.firstCells s j xv).run P w' = .ok ds.toArray w') :
    ∃ (nc : Nat) (w1 : World), k + j ≤ nc ∧ w1.heap = w.heap ∧ w1.os = w.os ∧ w1.output = w.output ∧ (Builtin.append_ #[t, t2] ty #[.slice base k cap, xv]).run P w =
      .ok (.slice (some ⟨w.heap.size, 0, none⟩) (k + j) nc) { w1 with heap := w1.heap.push (.cells (os.toArray ++ ds.toArray ++ Builtin.zeroCells z.cells (nc - (k + j))) e) } := by
  obtain ⟨info, hti, hbt⟩ := hE.ti
  obtain ⟨nc, w1, hch, hh1, ho1, hp1, hcut⟩ := choose_run (P := P) (.appendCap (k + j) cap e) w
  have hncap : k + j ≤ nc := by have := hcut rfl; subst this; simp [Question.cut]
  have hcap : ¬ (Builtin.nextslicecap (k + j) cap * info.bytes > 2 ^ 48) := by
    rw [hbt]
    have := Nat.mul_le_mul_right bt (nextslicecap_le hg)
    omega
  have hmax : ¬ (((k + j : Nat) : Int) > IntKind.i64.max) := by
    have : IntKind.i64.max = 9223372036854775807 := by decide
    rw [this]; omega
  have h1 := ho w1 hh1 ho1 hp1
  have h2' := hx w1 hh1 ho1 hp1
  refine ⟨nc, w1, hncap, hh1, ho1, hp1, ?_⟩
  obtain ⟨p, c, rfl⟩ := hxs
  simp only [Builtin.append_, Sem.run_bind, List.getElem?_toArray, List.getElem?_cons_zero, List.getElem?_cons_succ, run_underlying hE.ut, run_underlying h2, Result.andThen_ok, hE.sz, Sem.run_pure, Builtin.lenOf, Bool.false_eq_true, if_false, Bool.not_false, if_true]
  rw [if_neg (by omega)]
  simp only [Sem.run_ite, Sem.run_bind, Sem.run_pure, hti, Result.andThen_ok]
  rw [if_neg (fun h => hmax h.1)]
  simp only [hcap, if_false]
  simp only [Result.andThen_ok, hch, run_askRoom, h1, h2', hz]
  rw [← hh1]
  simp [newRow, newObj, Sem.run]

theorem run_append_fits {t t2 e2 e s bt k j cap b : Nat} {xv : Value} {ds : List Value} {F : Nat → Value} (hE : EL P t e s bt) (h2 : P.underlying t2 = some (.slice e2)) {w : World}
    (hxs : ∃ p c, xv = .slice p j c) (hg : k + j ≤ cap) (hS : Sat G w (blk b (cap * s) F :: R)) (hone : ∀ x ∈ ds, one x = true) (hdl : ds.length = j * s)
    (hx : (Builtin.firstCells s j xv).run P w = .ok ds.toArray w) :
    ∃ w', (Builtin.append_ #[t, t2] ty #[.slice (some ⟨b, 0, none⟩) k cap, xv]).run P w = .ok (.slice (some ⟨b, 0, none⟩) (k + j) cap) w' ∧ Sat G w' (blk b (cap * s) (updl F (k * s) ds) :: R) := by
  obtain ⟨info, hti, hbt⟩ := hE.ti
  have hlen : k * s + 0 + ds.length ≤ cap * s := by
    rw [hdl, Nat.add_zero, ← Nat.add_mul]; exact Nat.mul_le_mul_right _ hg
  obtain ⟨w', e1, hS'⟩ := run_storeCells (P := P) (off := k * s) (i := 0) hS hone hlen
  refine ⟨w', ?_, by simpa using hS'⟩
  obtain ⟨p, c, rfl⟩ := hxs
  simp only [Builtin.append_, Sem.run_bind, List.getElem?_toArray, List.getElem?_cons_zero, List.getElem?_cons_succ, run_underlying hE.ut, run_underlying h2, Result.andThen_ok, hE.sz, Sem.run_pure, Builtin.lenOf, Bool.false_eq_true, if_false]
  rw [if_pos hg]
  simp only [Bool.not_false, if_true, Sem.run_bind, hx, Result.andThen_ok, add_at, Nat.zero_add, e1, Sem.run_pure]

theorem run_append {t t2 e2 e s bt k j : Nat} {xv : Value} {cs ds : List Value} (hE : EL P t e s bt) (h2 : P.underlying t2 = some (.slice e2)) {w : World} (hS : Sat G w (slc s v k cs :: R))
    (hxs : ∃ p c, xv = .slice p j c) (hx : Rds P G (slc s v k cs :: R) xv s j ds) (hone : ∀ x ∈ ds, one x = true) (hb : (2 * (k + j) + 192) * bt ≤ 2 ^ 48) (hk : k + j < 2 ^ 62) :
    ∃ v' w', (Builtin.append_ #[t, t2] ty #[v, xv]).run P w = .ok v' w' ∧ Sat G w' (slc s v' (k + j) (cs ++ ds) :: R) := by
  obtain ⟨z, hz, hzs⟩ := hE.zv
  obtain ⟨hdl, hx⟩ := hx
  have hx' : ∀ w' : World, w'.heap = w.heap → w'.os = w.os → w'.output = w.output → (Builtin.firstCells s j xv).run P w' = .ok ds.toArray w' := fun w' h1 h2 h3 => hx w' (hS.heap h1 h2 h3)
  obtain ⟨hcl, hc⟩ := hS.slc
  have grow : ∀ base cap, v = .slice base k cap → cap < k + j → (∀ w' : World, w'.heap = w.heap → w'.os = w.os → w'.output = w.output → (Builtin.firstCells s k (.slice base k cap)).run P w' = .ok cs.toArray w') →
      ∃ v' w', (Builtin.append_ #[t, t2] ty #[v, xv]).run P w = .ok v' w' ∧ Sat G w' (slc s v' (k + j) (cs ++ ds) :: R) := by
    rintro base cap rfl hg ho
    obtain ⟨nc, w1, hnc, hh1, ho1, hp1, he⟩ := run_append_grow (ty := ty) hE hz h2 hxs hg hb hk ho hx'
    have hsz : (cs.toArray ++ ds.toArray ++ Builtin.zeroCells z.cells (nc - (k + j))).size = nc * s := by
      simp only [Array.size_append, List.size_toArray, size_zeroCells, hcl, hdl, hzs]
      rw [← Nat.add_mul, ← Nat.add_mul]
      congr 1
      omega
    have hS1 := (hS.tail.heap hh1 ho1 hp1).alloc (T := e) hsz (F := fun i => (cs.toArray ++ ds.toArray ++ Builtin.zeroCells z.cells (nc - (k + j))).getD i undef) (fun i hi => by
      rw [Array.getD_eq_getD_getElem?, Array.getElem?_eq_getElem (by omega)]; rfl)
    rw [hh1] at hS1
    refine ⟨_, _, he, ?_⟩
    rw [← hh1] at *
    refine Sat.toSlc (by simpa [hh1] using hS1) (by simp [hcl, hdl, Nat.add_mul]) hnc (fun i x hi => ?_)
    have hlt : i < (cs ++ ds).length := (List.getElem?_eq_some_iff.1 hi).1
    simp only [List.length_append] at hlt
    rw [Array.getElem?_append_left (by simp; omega), List.getElem?_toArray, hi]
    rfl
  rcases hc with ⟨rfl, rfl, rfl⟩ | ⟨b, cap, F, rfl, hkc, hSb, hF⟩
  · by_cases hj : j = 0
    · subst hj
      obtain rfl : ds = [] := by simpa using hdl
      obtain ⟨p, c, rfl⟩ := hxs
      refine ⟨.slice none 0 0, w, ?_, hS⟩
      simp only [Builtin.append_, Sem.run_bind, List.getElem?_toArray, List.getElem?_cons_zero, List.getElem?_cons_succ, run_underlying hE.ut, run_underlying h2, Result.andThen_ok, hE.sz, Sem.run_pure, Builtin.lenOf, Bool.false_eq_true, if_false,
        Nat.le_refl, if_true, Bool.not_false, Nat.add_zero, hx' w rfl rfl rfl]
    · exact grow none 0 rfl (by omega) (fun w' _ _ _ => rfl)
  · by_cases hg : k + j ≤ cap
    · obtain ⟨w', e1, hS'⟩ := run_append_fits (ty := ty) hE h2 hxs hg hSb hone hdl (hx' w rfl rfl rfl)
      refine ⟨_, w', e1, Sat.toSlc hS' (by simp [hcl, hdl, Nat.add_mul]) hg (fun i x hi => ?_)⟩
      by_cases h : i < cs.length
      · rw [updl_lt (by omega)]
        exact hF i x (by rwa [List.getElem?_append_left h] at hi)
      · rw [List.getElem?_append_right (by omega)] at hi
        have := updl_get (F := F) (off := k * s) hi
        rwa [hcl, show k * s + (i - k * s) = i by omega] at this
    · refine grow (some ⟨b, 0, none⟩) cap rfl (by omega) (fun w' h1 h2 h3 => ?_)
      have := (Rds.blk (P := P) (G := G) (L := Eng.blk b (cap * s) F :: R) (off := 0) (k := k) (l := k) (c := cap) (s := s) (cs := cs) (.head _) hcl (by rw [Nat.zero_add]; exact Nat.mul_le_mul_right _ hkc) (fun i x hi => by rw [Nat.zero_add]; exact hF i x hi)).2
      exact this w' (hSb.heap h1 h2 h3)

/-- append(v, xv...) of a slice at the head of the list. -/
theorem r_append {t t2 e2 e s bt k j : Nat} {x y : Operand} {xv : Value} {cs ds : List Value} (hE : EL P t e s bt) (h2 : P.underlying t2 = some (.slice e2)) (hv : OV ρ x v) (hy : OV ρ y xv)
    (hxs : ∃ p c, xv = .slice p j c) (hx : Rds P G (slc s v k cs :: R) xv s j ds) (hone : ∀ x ∈ ds, one x = true) (hb : (2 * (k + j) + 192) * bt ≤ 2 ^ 48) (hk : k + j < 2 ^ 62) :
    RunW P G ρ n (slc s v k cs :: R) ⟨d, .call ⟨.builtin .append, #[x, y], #[t, t2]⟩, ty, pos, af, g⟩ (fun v' w' => Sat G w' (slc s v' (k + j) (cs ++ ds) :: R)) := fun w a hS ha => by
  obtain ⟨v', w', e1, e2⟩ := run_append (ty := ty) hE h2 hS hxs hx hone hb hk
  refine ⟨v', w', ?_, e2⟩
  simp [execOp, resolve, invoke, builtin, hv.eval ha, hy.eval ha, e1]

/-- copy(v, xv) into a block at the head of the list. -/
theorem r_copy {t t2 e s bt k j l b off m cap c : Nat} {x y : Operand} {p : Option Addr} {ds : List Value} {F : Nat → Value} (hE : EL P t e s bt) (hv : OV ρ x (.slice (some ⟨b, off, none⟩) k cap)) (hy : OV ρ y (.slice p j c))
    (hl : min j k = l) (hx : Rds P G (blk b m F :: R) (.slice p j c) s l ds) (hone : ∀ x ∈ ds, one x = true) (hm : off + l * s ≤ m) :
    RunW P G ρ n (blk b m F :: R) ⟨d, .call ⟨.builtin .copy, #[x, y], #[t, t2]⟩, ty, pos, af, g⟩ (fun v' w' => v' = .int .i64 (l : Int) ∧ Sat G w' (blk b m (updl F off ds) :: R)) := fun w a hS ha => by
  obtain ⟨hdl, hx⟩ := hx
  obtain ⟨w', e1, hS'⟩ := run_storeCells (P := P) (off := off) (i := 0) hS hone (by omega)
  have hx0 := hx w hS
  refine ⟨_, w', ?_, rfl, by simpa using hS'⟩
  subst hl
  simp [execOp, resolve, invoke, builtin, hv.eval ha, hy.eval ha, Builtin.copy_, run_underlying hE.ut, hE.sz, Builtin.lenOf, Nat.min_def] at *
  split
  all_goals (rename_i h; simp only [h, if_true, if_false] at hx0; simp [hx0, e1, goInt])
/-- copy into a slice of no elements, or of none. -/
theorem r_copy0 {t t2 e s bt k j cap c : Nat} {x y : Operand} {p q : Option Addr} (hE : EL P t e s bt) (hv : OV ρ x (.slice q k cap)) (hy : OV ρ y (.slice p j c)) (hl : min j k = 0) :
    Run P G ρ n L ⟨d, .call ⟨.builtin .copy, #[x, y], #[t, t2]⟩, ty, pos, af, g⟩ (.int .i64 0) := fun w a _ ha => by
  have e1 : ∀ w, (Builtin.firstCells s 0 (.slice p j c)).run P w = .ok #[] w := by
    intro w
    cases p with
    | none => rfl
    | some a => simp [Builtin.firstCells, loadCells, loadCellsFrom]
  have hl' : Nat.min j k = 0 := hl
  cases q <;> simp [execOp, resolve, invoke, builtin, hv.eval ha, hy.eval ha, Builtin.copy_, run_underlying hE.ut, hE.sz, Builtin.lenOf, hl', e1, goInt, storeCells]
end
end Go.Eng
