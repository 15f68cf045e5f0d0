/- Heap assertions: a small separation logic over the model's worlds, for the walks of this seat. -/
import Derived.Tactics
import Derived.StillTail
import Derived.ScopeJumps
import Derived.KernelRfl
import Derived.RowKit3
namespace Go.Eng
open Go

abbrev PH := Nat → Option Obj
def PH.le (m h : PH) : Prop := ∀ b o, m b = some o → h b = some o
def PH.sub (h m : PH) : PH := fun b => if (m b).isSome then none else h b
def PH.set (h : PH) (b : Nat) (o : Obj) : PH := fun x => if x = b then some o else h x
abbrev HProp := PH → Prop

def SatL : PH → List HProp → Prop
  | _, [] => True
  | h, A :: L => ∃ m, A m ∧ PH.le m h ∧ SatL (PH.sub h m) L

theorem PH.le_refl (h : PH) : PH.le h h := fun _ _ e => e
theorem PH.le_trans {a b c : PH} (h : PH.le a b) (k : PH.le b c) : PH.le a c := fun x o e => k x o (h x o e)
theorem PH.sub_le (h m : PH) : PH.le (PH.sub h m) h := by
  intro b o e
  unfold PH.sub at e
  split at e
  · cases e
  · exact e
theorem PH.sub_mono {h k : PH} (m : PH) (e : PH.le h k) : PH.le (PH.sub h m) (PH.sub k m) := by
  intro b o hb
  unfold PH.sub at *
  split at hb
  · cases hb
  · rename_i hm; rw [if_neg hm]; exact e _ _ hb
theorem PH.sub_anti {m m' : PH} (h : PH) (e : PH.le m m') : PH.le (PH.sub h m') (PH.sub h m) := by
  intro b o hb
  unfold PH.sub at *
  split at hb
  · cases hb
  · rename_i hm
    have : m b = none := by
      cases hmb : m b with
      | none => rfl
      | some o => rw [e _ _ hmb] at hm; simp at hm
    rw [this]; simpa using hb

theorem SatL.mono {h k : PH} (e : PH.le h k) : ∀ {L : List HProp}, SatL h L → SatL k L := by
  intro L
  induction L generalizing h k with
  | nil => intro _; trivial
  | cons A L ih =>
    rintro ⟨m, hA, hm, hL⟩
    exact ⟨m, hA, PH.le_trans hm e, ih (PH.sub_mono m e) hL⟩

theorem SatL.tail {h : PH} {A : HProp} {L : List HProp} : SatL h (A :: L) → SatL h L :=
  fun ⟨m, _, _, hL⟩ => SatL.mono (PH.sub_le h m) hL

theorem PH.sub_le_of {m m2 h : PH} (hm : PH.le m2 (PH.sub h m)) (hm1 : PH.le m h) : PH.le m (PH.sub h m2) := by
  intro b o hb
  unfold PH.sub
  have : m2 b = none := by
    cases h2 : m2 b with
    | none => rfl
    | some o2 =>
      have := hm _ _ h2
      unfold PH.sub at this
      rw [hb] at this
      simp at this
  rw [this]; simpa using hm1 _ _ hb

theorem SatL.swap {h : PH} {A B : HProp} {L : List HProp} : SatL h (A :: B :: L) → SatL h (B :: A :: L) := by
  rintro ⟨m, hA, hm, m2, hB, hm2, hL⟩
  refine ⟨m2, hB, PH.le_trans hm2 (PH.sub_le _ _), m, hA, PH.sub_le_of hm2 hm, SatL.mono ?_ hL⟩
  intro b o hb
  unfold PH.sub at *
  by_cases h1 : (m2 b).isSome <;> by_cases h2 : (m b).isSome <;> simp_all

theorem SatL.perm {L L' : List HProp} (p : L.Perm L') : ∀ {h : PH}, SatL h L → SatL h L' := by
  induction p with
  | nil => exact fun h => h
  | cons A _ ih => exact fun ⟨m, hA, hm, hL⟩ => ⟨m, hA, hm, ih hL⟩
  | swap A B L => exact SatL.swap
  | trans _ _ ih1 ih2 => exact fun h => ih2 (ih1 h)

theorem SatL.imp {h : PH} {A B : HProp} {L : List HProp} (e : ∀ m, A m → B m) : SatL h (A :: L) → SatL h (B :: L) :=
  fun ⟨m, hA, hm, hL⟩ => ⟨m, e m hA, hm, hL⟩

theorem SatL.get {h : PH} {A : HProp} {L : List HProp} (hA : A ∈ L) : SatL h L → ∃ m, A m ∧ PH.le m h := by
  induction L generalizing h with
  | nil => cases hA
  | cons B L ih =>
    rintro ⟨m, hB, hm, hL⟩
    cases hA with
    | head => exact ⟨m, hB, hm⟩
    | tail _ hA =>
      obtain ⟨m', h1, h2⟩ := ih hA hL
      exact ⟨m', h1, PH.le_trans h2 (PH.sub_le _ _)⟩

/-- Several assertions as one. -/
def sep (Ls : List HProp) : HProp := fun m => SatL m Ls

theorem SatL.unsep {Ls L : List HProp} : ∀ {h : PH}, SatL h (sep Ls :: L) → SatL h (Ls ++ L) := by
  induction Ls with
  | nil => exact fun ⟨m, _, _, hL⟩ => SatL.mono (PH.sub_le _ _) hL
  | cons A Ls ih =>
    rintro h ⟨m, ⟨m1, hA, h1, hLs⟩, hm, hL⟩
    refine ⟨m1, hA, PH.le_trans h1 hm, ih ⟨PH.sub m m1, hLs, PH.sub_mono m1 hm, SatL.mono ?_ hL⟩⟩
    intro b o hb
    unfold PH.sub at *
    split at hb
    · cases hb
    · rename_i hmb
      have hmn : m b = none := by simpa using hmb
      have h1n : m1 b = none := by
        cases e : m1 b with
        | none => rfl
        | some o1 => rw [h1 _ _ e] at hmn; cases hmn
      simp [h1n, hmn]; exact hb

theorem SatL.split {Ls L : List HProp} : ∀ {h : PH}, SatL h (Ls ++ L) → ∃ m, SatL m Ls ∧ PH.le m h ∧ SatL (PH.sub h m) L := by
  induction Ls with
  | nil =>
    intro h hL
    exact ⟨fun _ => none, trivial, fun _ _ e => (by cases e), SatL.mono (fun b o hb => by simpa [PH.sub] using hb) hL⟩
  | cons A Ls ih =>
    rintro h ⟨m1, hA, h1, hL⟩
    obtain ⟨m2, hLs, h2, hR⟩ := ih hL
    refine ⟨fun b => (m1 b).or (m2 b), ⟨m1, hA, fun b o hb => by simp [hb], SatL.mono ?_ hLs⟩, ?_, SatL.mono ?_ hR⟩
    · intro b o hb
      have := h2 _ _ hb
      unfold PH.sub at this ⊢
      split at this
      · cases this
      · rename_i hn
        have hn' : m1 b = none := by simpa using hn
        simp [hn', hb]
    · intro b o hb
      cases e : m1 b with
      | some o1 => simp [e] at hb; subst hb; exact h1 _ _ e
      | none => simp [e] at hb; exact PH.sub_le _ _ _ _ (h2 _ _ hb)
    · intro b o hb
      unfold PH.sub at *
      cases e1 : m1 b <;> cases e2 : m2 b <;> simp_all

theorem SatL.resep {Ls L : List HProp} {h : PH} (hs : SatL h (Ls ++ L)) : SatL h (sep Ls :: L) :=
  let ⟨m, h1, h2, h3⟩ := SatL.split hs
  ⟨m, h1, h2, h3⟩

/-- 'A at one place of L, A' at the same place of L''. -/
inductive At (A A' : HProp) : List HProp → List HProp → Prop
  | here {L} : At A A' (A :: L) (A' :: L)
  | there {B L L'} (h : At A A' L L') : At A A' (B :: L) (B :: L')

theorem At.mem {A A' : HProp} {L L' : List HProp} (h : At A A' L L') : A ∈ L := by
  induction h with
  | here => exact .head _
  | there _ ih => exact .tail _ ih

theorem SatL.modify {b : Nat} {o' : Obj} {A A' : HProp} {L L' : List HProp} (hz : At A A' L L') :
    ∀ {h : PH}, (∀ m, A m → PH.le m h → (∃ o, m b = some o) ∧ A' (PH.set m b o')) → SatL h L → SatL (PH.set h b o') L' := by
  induction hz with
  | here =>
    rintro h hA ⟨m, h1, h2, h3⟩
    obtain ⟨⟨o, ho⟩, hA'⟩ := hA m h1 h2
    refine ⟨PH.set m b o', hA', ?_, SatL.mono ?_ h3⟩
    · intro x y hx
      unfold PH.set at *
      split at hx
      · rename_i e; rw [if_pos e]; exact hx
      · rename_i e; rw [if_neg e]; exact h2 _ _ hx
    · intro x y hx
      unfold PH.sub PH.set at *
      by_cases e : x = b
      · subst e; rw [ho] at hx; simp at hx
      · simp only [if_neg e]; exact hx
  | there hz ih =>
    rename_i B L L'
    rintro h hA ⟨m0, h1, h2, h3⟩
    have key := ih (h := PH.sub h m0) (fun m hm hle => hA m hm (PH.le_trans hle (PH.sub_le _ _))) h3
    obtain ⟨m, hm, hle⟩ := SatL.get hz.mem h3
    obtain ⟨⟨o, ho⟩, _⟩ := hA m hm (PH.le_trans hle (PH.sub_le _ _))
    have hb : m0 b = none := by
      have := hle _ _ ho
      unfold PH.sub at this
      split at this
      · cases this
      · rename_i hn; simpa using hn
    refine ⟨m0, h1, ?_, SatL.mono ?_ key⟩
    · intro x y hx
      unfold PH.set
      by_cases e : x = b
      · subst e; rw [hb] at hx; cases hx
      · rw [if_neg e]; exact h2 _ _ hx
    · intro x y hx
      unfold PH.sub PH.set at *
      by_cases e : x = b
      · subst e; simpa [hb] using hx
      · simpa [if_neg e] using hx

theorem SatL.alloc {h : PH} {b : Nat} {o : Obj} {A : HProp} {L : List HProp} (hb : h b = none) (hA : A (PH.set (fun _ => none) b o)) (hL : SatL h L) :
    SatL (PH.set h b o) (A :: L) := by
  refine ⟨_, hA, ?_, SatL.mono ?_ hL⟩
  · intro x y hx
    unfold PH.set at *
    split at hx
    · rename_i e; rw [if_pos e]; exact hx
    · cases hx
  · intro x y hx
    unfold PH.sub PH.set
    by_cases e : x = b
    · subst e; rw [hb] at hx; cases hx
    · simp only [if_neg e]; simpa using hx

/-! What a block of cells, and a map, hold. -/
def blk (b n : Nat) (F : Nat → Value) : HProp := fun m => ∃ cs T, m b = some (.cells cs T (0, 0)) ∧ cs.size = n ∧ ∀ i, i < n → cs[i]? = some (F i)
def upd (F : Nat → Value) (i : Nat) (v : Value) : Nat → Value := fun j => if j = i then v else F j
def mapb (b : Nat) (M : Array MapEntry → Nat → Prop) : HProp := fun m => ∃ es c, m b = some (.map es c) ∧ M es c
def hpure (p : Prop) : HProp := fun _ => p
def hex {α : Type} (A : α → HProp) : HProp := fun m => ∃ x, A x m

theorem upd_same (F : Nat → Value) (i : Nat) (v : Value) : upd F i v i = v := if_pos rfl
theorem upd_ne (F : Nat → Value) {i j : Nat} (v : Value) (h : j ≠ i) : upd F i v j = F j := if_neg h

theorem SatL.ex {α : Type} {A : α → HProp} {h : PH} {L : List HProp} : SatL h (hex A :: L) → ∃ x, SatL h (A x :: L) :=
  fun ⟨m, ⟨x, hx⟩, h2, h3⟩ => ⟨x, m, hx, h2, h3⟩
theorem SatL.pure {p : Prop} {h : PH} {L : List HProp} : SatL h (hpure p :: L) → p ∧ SatL h L :=
  fun ⟨m, hp, _, h3⟩ => ⟨hp, SatL.mono (PH.sub_le _ _) h3⟩

/-! Worlds. -/
def own (G w : World) : PH := fun b => if b < G.heap.size then none else w.heap[b]?

structure Sat (G w : World) (L : List HProp) : Prop where
  base : ∀ b, b < G.heap.size → w.heap[b]? = G.heap[b]?
  size : G.heap.size ≤ w.heap.size
  os : w.os = G.os
  output : w.output = G.output
  calm : ∀ b c t f, G.heap.size ≤ b → w.heap[b]? = some (.cells c t f) → f = (0, 0)
  sat : SatL (own G w) L

theorem Sat.start (G : World) (hc : ∀ b c t f, G.heap.size ≤ b → G.heap[b]? = some (.cells c t f) → f = (0, 0)) : Sat G G [] :=
  ⟨fun _ _ => rfl, Nat.le_refl _, rfl, rfl, hc, trivial⟩
theorem Sat.begin (G : World) : Sat G G [] := Sat.start G (fun b c t f hb h => by
  rw [Array.getElem?_eq_none (by omega)] at h
  cases h)
theorem Sat.perm {G w : World} {L L' : List HProp} (p : L.Perm L') (h : Sat G w L) : Sat G w L' := { h with sat := SatL.perm p h.sat }
theorem Sat.imp {G w : World} {A B : HProp} {L : List HProp} (e : ∀ m, A m → B m) (h : Sat G w (A :: L)) : Sat G w (B :: L) := { h with sat := SatL.imp e h.sat }
theorem Sat.tail {G w : World} {A : HProp} {L : List HProp} (h : Sat G w (A :: L)) : Sat G w L := { h with sat := SatL.tail h.sat }
theorem Sat.unsep {G w : World} {Ls L : List HProp} (h : Sat G w (sep Ls :: L)) : Sat G w (Ls ++ L) := { h with sat := SatL.unsep h.sat }
theorem Sat.resep {G w : World} {Ls L : List HProp} (h : Sat G w (Ls ++ L)) : Sat G w (sep Ls :: L) := { h with sat := SatL.resep h.sat }
theorem Sat.ex {α : Type} {A : α → HProp} {G w : World} {L : List HProp} (h : Sat G w (hex A :: L)) : ∃ x, Sat G w (A x :: L) :=
  let ⟨x, hx⟩ := SatL.ex h.sat; ⟨x, { h with sat := hx }⟩
theorem Sat.pure {p : Prop} {G w : World} {L : List HProp} (h : Sat G w (hpure p :: L)) : p ∧ Sat G w L :=
  ⟨(SatL.pure h.sat).1, { h with sat := (SatL.pure h.sat).2 }⟩
theorem Sat.nil {G w : World} {L : List HProp} (h : Sat G w L) : Sat G w [] := { h with sat := trivial }
theorem Sat.emp {G w : World} {A : HProp} {L : List HProp} (hA : A (fun _ => none)) (h : Sat G w L) : Sat G w (A :: L) :=
  { h with sat := ⟨_, hA, fun _ _ e => (by cases e), SatL.mono (fun b o hb => by simpa [PH.sub] using hb) h.sat⟩ }
theorem Sat.drew {G w : World} {L : List HProp} (h : Sat G w L) (n : Nat) : Sat G { w with drawn := n } L := ⟨h.base, h.size, h.os, h.output, h.calm, h.sat⟩

/-- The object of an assertion of the list. -/
theorem Sat.obj {G w : World} {L : List HProp} {A : HProp} (hA : A ∈ L) (h : Sat G w L) : ∃ m, A m ∧ ∀ b o, m b = some o → G.heap.size ≤ b ∧ w.heap[b]? = some o := by
  obtain ⟨m, h1, h2⟩ := SatL.get hA h.sat
  refine ⟨m, h1, fun b o hb => ?_⟩
  have := h2 _ _ hb
  unfold Eng.own at this
  split at this
  · cases this
  · rename_i hn; exact ⟨by omega, this⟩

theorem Sat.blk {G w : World} {L : List HProp} {b n : Nat} {F : Nat → Value} (hA : blk b n F ∈ L) (h : Sat G w L) :
    ∃ cs T, G.heap.size ≤ b ∧ w.heap[b]? = some (.cells cs T (0, 0)) ∧ cs.size = n ∧ ∀ i, i < n → cs[i]? = some (F i) := by
  obtain ⟨m, ⟨cs, T, h1, h2, h3⟩, h4⟩ := h.obj hA
  exact ⟨cs, T, (h4 _ _ h1).1, (h4 _ _ h1).2, h2, h3⟩
theorem Sat.cell {G w : World} {L : List HProp} {b n : Nat} {F : Nat → Value} (hA : Eng.blk b n F ∈ L) (h : Sat G w L) {i : Nat} (hi : i < n) :
    w.cell? ⟨b, i, none⟩ = some (F i) := by
  obtain ⟨cs, T, _, h1, h2, h3⟩ := h.blk hA
  simp [World.cell?, h1, h3 i hi]
theorem Sat.frozen {G w : World} {L : List HProp} {b n : Nat} {F : Nat → Value} (hA : Eng.blk b n F ∈ L) (h : Sat G w L) (i : Nat) :
    w.frozen? ⟨b, i, none⟩ = false := by
  obtain ⟨cs, T, _, h1, h2, h3⟩ := h.blk hA
  simp [World.frozen?, h1]

theorem own_setObj {G w : World} {b : Nat} {o : Obj} (hb : G.heap.size ≤ b) (hw : b < w.heap.size) (w' : World) (hw' : ∀ x : Nat, w'.heap[x]? = if x = b then some o else w.heap[x]?) :
    own G w' = PH.set (own G w) b o := by
  funext x
  unfold own PH.set
  by_cases hx : x < G.heap.size
  · simp only [if_pos hx]; rw [if_neg (by omega)]
  · simp only [if_neg hx]; rw [hw']

/-- One object of the world's own is another one now. -/
theorem Sat.setObj {G w w' : World} {L L' : List HProp} {A A' : HProp} {b : Nat} {o' : Obj} (h : Sat G w L) (hz : At A A' L L')
    (hA : ∀ m, A m → (∃ o, m b = some o) ∧ A' (PH.set m b o')) (hc : ∀ c t f, o' = .cells c t f → f = (0, 0))
    (hw' : ∀ x : Nat, w'.heap[x]? = if x = b then some o' else w.heap[x]?) (hsz : w'.heap.size = w.heap.size) (hos : w'.os = w.os) (hout : w'.output = w.output) : Sat G w' L' := by
  obtain ⟨m, hm, hmo⟩ := h.obj hz.mem
  obtain ⟨⟨o, ho⟩, _⟩ := hA m hm
  obtain ⟨hb, hbo⟩ := hmo _ _ ho
  have hlt : b < w.heap.size := (Array.getElem?_eq_some_iff.1 hbo).1
  refine ⟨fun x hx => ?_, by rw [hsz]; exact h.size, by rw [hos]; exact h.os, by rw [hout]; exact h.output, fun x c t f hx hxo => ?_, ?_⟩
  · rw [hw', if_neg (by omega)]; exact h.base x hx
  · rw [hw'] at hxo
    split at hxo
    · exact hc _ _ _ (Option.some.inj hxo)
    · exact h.calm _ _ _ _ hx hxo
  · rw [own_setObj hb hlt w' hw']
    exact SatL.modify hz (fun _ hm _ => hA _ hm) h.sat

theorem Sat.setCell {G w : World} {L L' : List HProp} {b n i : Nat} {F : Nat → Value} {v : Value} (h : Sat G w L) (hi : i < n)
    (hz : At (Eng.blk b n F) (Eng.blk b n (upd F i v)) L L') : Sat G (w.setCell ⟨b, i, none⟩ v) L' := by
  obtain ⟨cs, T, hb, h1, h2, h3⟩ := h.blk hz.mem
  have hlt : b < w.heap.size := (Array.getElem?_eq_some_iff.1 h1).1
  have hob := (Array.getElem?_eq_some_iff.1 h1).2
  have hheap : ∀ x : Nat, (w.setCell ⟨b, i, none⟩ v).heap[x]? = if x = b then some (.cells (cs.setIfInBounds i v) T (0, 0)) else w.heap[x]? := by
    intro x
    simp only [World.setCell, Array.getElem?_modify]
    by_cases hx : b = x
    · subst hx; rw [if_pos rfl, if_pos rfl, h1]; rfl
    · rw [if_neg hx, if_neg (fun e => hx e.symm)]
  refine h.setObj (b := b) hz (o' := .cells (cs.setIfInBounds i v) T (0, 0)) ?_ (fun c t f e => by cases e; rfl) hheap (by simp [World.setCell]) rfl rfl
  · rintro _ ⟨cs', T', e1, e2, e3⟩
    refine ⟨⟨_, e1⟩, cs.setIfInBounds i v, T, by simp [PH.set], by simp [h2], fun j hj => ?_⟩
    unfold upd
    by_cases hj' : j = i
    · subst hj'; simp [h2, hj]
    · rw [if_neg hj', Array.getElem?_setIfInBounds_ne (fun e => hj' e.symm)]; exact h3 j hj

theorem own_push {G w w' : World} {o : Obj} (hsz : G.heap.size ≤ w.heap.size) (hw' : w'.heap = w.heap.push o) :
    own G w' = PH.set (own G w) w.heap.size o := by
  funext x
  unfold own PH.set
  rw [hw']
  by_cases hx : x < G.heap.size
  · simp only [if_pos hx]; rw [if_neg (by omega)]
  · simp only [if_neg hx]; rw [Array.getElem?_push]

theorem Sat.push {G w w' : World} {L : List HProp} {A : HProp} {o : Obj} (h : Sat G w L) (hA : A (PH.set (fun _ => none) w.heap.size o)) (hc : ∀ c t f, o = .cells c t f → f = (0, 0))
    (hw' : w'.heap = w.heap.push o) (hos : w'.os = w.os) (hout : w'.output = w.output) : Sat G w' (A :: L) := by
  refine ⟨fun x hx => ?_, by rw [hw']; simp; have := h.size; omega, by rw [hos]; exact h.os, by rw [hout]; exact h.output, fun x c t f hx hxo => ?_, ?_⟩
  · rw [hw', Array.getElem?_push, if_neg (by have := h.size; omega)]; exact h.base x hx
  · rw [hw', Array.getElem?_push] at hxo
    split at hxo
    · exact hc _ _ _ (Option.some.inj hxo)
    · exact h.calm _ _ _ _ hx hxo
  · rw [own_push h.size hw']
    refine SatL.alloc ?_ hA h.sat
    unfold own
    rw [if_neg (by have := h.size; omega)]
    simp

theorem Sat.alloc {G w : World} {L : List HProp} {cs : Array Value} {T : TypeId} {n : Nat} {F : Nat → Value} (h : Sat G w L) (hn : cs.size = n) (hF : ∀ i, i < n → cs[i]? = some (F i)) :
    Sat G { w with heap := w.heap.push (.cells cs T) } (Eng.blk w.heap.size n F :: L) :=
  h.push (o := .cells cs T) ⟨cs, T, by simp [PH.set], hn, hF⟩ (fun c t f e => by cases e; rfl) rfl rfl rfl
theorem Sat.allocMap {G w : World} {L : List HProp} {M : Array MapEntry → Nat → Prop} (h : Sat G w L) (hM : M #[] 0) :
    Sat G { w with heap := w.heap.push (.map #[] 0) } (mapb w.heap.size M :: L) :=
  h.push (o := .map #[] 0) ⟨#[], 0, by simp [PH.set], hM⟩ (fun c t f e => by cases e) rfl rfl rfl

theorem Sat.base_cell {G w : World} {L : List HProp} (h : Sat G w L) {a : Addr} (ha : a.block < G.heap.size) : w.cell? a = G.cell? a := by
  unfold World.cell?; rw [h.base _ ha]
theorem cell?_lt {G : World} {a : Addr} {v : Value} (h : G.cell? a = some v) : a.block < G.heap.size := by
  unfold World.cell? at h
  rcases Nat.lt_or_ge a.block G.heap.size with h' | h'
  · exact h'
  · rw [Array.getElem?_eq_none h'] at h; cases h
theorem Sat.base_some {G w : World} {L : List HProp} (h : Sat G w L) {a : Addr} {v : Value} (ha : G.cell? a = some v) : w.cell? a = some v := by
  rw [h.base_cell (cell?_lt ha)]; exact ha

open Go.RowKit in
theorem Sat.grown {G w : World} {L : List HProp} (h : Sat G w L) : Grown G w := by
  refine ⟨⟨h.os, h.output, fun i hi => ?_⟩, fun a => ?_, h.size⟩
  · rw [h.base i hi]
    cases e : G.heap[i]? with
    | none => rfl
    | some o => cases o <;> simp
  · unfold World.frozen?
    by_cases ha : a.block < G.heap.size
    · rw [h.base _ ha]
    · rw [Array.getElem?_eq_none (Nat.le_of_not_lt ha)]
      cases e : w.heap[a.block]? with
      | none => rfl
      | some o =>
        cases o with
        | cells c t f =>
          have := h.calm _ _ _ _ (Nat.le_of_not_lt ha) e
          subst this; simp
        | _ => rfl
end Go.Eng
