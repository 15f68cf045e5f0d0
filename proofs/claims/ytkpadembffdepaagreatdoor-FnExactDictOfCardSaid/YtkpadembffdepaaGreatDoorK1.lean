/- Parts of the proof of the card: Ea Eb Ec Ed Ef Eg Eh Ei Ek Ej Ba Wa Wb Wc Ra Wd Be Bf Bg Bb We Rb Rc Bc Sa Sb -/
import Derived.Tactics
import Derived.StillTail
import Derived.ScopeJumps
import Derived.KernelRfl
import Derived.RowKit3
import Derived.Test.YtkpadembffdepaaGreatDoorProg
set_option maxRecDepth 100000
set_option maxHeartbeats 4000000
set_option linter.unusedVariables false
set_option linter.unusedSimpArgs false
namespace Go.Eng
open Go
abbrev PH := Nat → Option Obj
def PH.le (m h : PH) : Prop := ∀ b o, m b = some o → h b = some o
def PH.sub (h m : PH) : PH := fun b => if (m b).isSome then none else h b
def PH.set (h : PH) (b : Nat) (o : Obj) : PH := fun x => if x = b then some o else h x
abbrev HProp := PH → Prop
def SatL : PH → List HProp → Prop
 | _, [] => True
 | h, A :: L => ∃ m, A m ∧ PH.le m h ∧ SatL (PH.sub h m) L
theorem PH.le_refl (h : PH) : PH.le h h := fun _ _ e => e
theorem PH.le_trans {a b c : PH} (h : PH.le a b) (k : PH.le b c) : PH.le a c := fun x o e => k x o (h x o e)
theorem PH.sub_le (h m : PH) : PH.le (PH.sub h m) h := by
 intro b o e
 unfold PH.sub at e
 split at e
 ·
  cases e
 exact e
theorem PH.sub_mono {h k : PH} (m : PH) (e : PH.le h k) : PH.le (PH.sub h m) (PH.sub k m) := by
 intro b o hb
 unfold PH.sub at *
 split at hb
 ·
  cases hb
 rename_i hm; rw [if_neg hm]; exact e _ _ hb
theorem SatL.mono {h k : PH} (e : PH.le h k) : ∀ {L : List HProp}, SatL h L → SatL k L := by
 intro L
 induction L generalizing h k with
 | nil => intro _; trivial
 | cons A L ih =>
  rintro ⟨m, hA, hm, hL⟩
  exact ⟨m, hA, PH.le_trans hm e, ih (PH.sub_mono m e) hL⟩
theorem SatL.tail {h : PH} {A : HProp} {L : List HProp} : SatL h (A :: L) → SatL h L :=
 fun ⟨m, _, _, hL⟩ => SatL.mono (PH.sub_le h m) hL
theorem PH.sub_le_of {m m2 h : PH} (hm : PH.le m2 (PH.sub h m)) (hm1 : PH.le m h) : PH.le m (PH.sub h m2) := by
 intro b o hb
 unfold PH.sub
 have : m2 b = none := by
  cases h2 : m2 b with
  | none => rfl
  | some o2 =>
   have := hm _ _ h2
   unfold PH.sub at this
   rw [hb] at this
   simp at this
 rw [this]; simpa using hm1 _ _ hb
theorem SatL.swap {h : PH} {A B : HProp} {L : List HProp} : SatL h (A :: B :: L) → SatL h (B :: A :: L) := by
 rintro ⟨m, hA, hm, m2, hB, hm2, hL⟩
 refine ⟨m2, hB, PH.le_trans hm2 (PH.sub_le _ _), m, hA, PH.sub_le_of hm2 hm, SatL.mono ?_ hL⟩
 intro b o hb
 unfold PH.sub at *
 by_cases h1 : (m2 b).isSome <;> by_cases h2 : (m b).isSome <;> simp_all
theorem SatL.perm {L L' : List HProp} (p : L.Perm L') : ∀ {h : PH}, SatL h L → SatL h L' := by
 induction p with
 | nil => exact fun h => h
 | cons A _ ih => exact fun ⟨m, hA, hm, hL⟩ => ⟨m, hA, hm, ih hL⟩
 | swap A B L => exact SatL.swap
 | trans _ _ ih1 ih2 => exact fun h => ih2 (ih1 h)
theorem SatL.imp {h : PH} {A B : HProp} {L : List HProp} (e : ∀ m, A m → B m) : SatL h (A :: L) → SatL h (B :: L) :=
 fun ⟨m, hA, hm, hL⟩ => ⟨m, e m hA, hm, hL⟩
theorem SatL.get {h : PH} {A : HProp} {L : List HProp} (hA : A ∈ L) : SatL h L → ∃ m, A m ∧ PH.le m h := by
 induction L generalizing h with
 | nil => cases hA
 | cons B L ih =>
  rintro ⟨m, hB, hm, hL⟩
  cases hA with
  | head => exact ⟨m, hB, hm⟩
  | tail _ hA =>
   obtain ⟨m', h1, h2⟩ := ih hA hL
   exact ⟨m', h1, PH.le_trans h2 (PH.sub_le _ _)⟩
def sep (Ls : List HProp) : HProp := fun m => SatL m Ls
theorem SatL.unsep {Ls L : List HProp} : ∀ {h : PH}, SatL h (sep Ls :: L) → SatL h (Ls ++ L) := by
 induction Ls with
 | nil => exact fun ⟨m, _, _, hL⟩ => SatL.mono (PH.sub_le _ _) hL
 | cons A Ls ih =>
  rintro h ⟨m, ⟨m1, hA, h1, hLs⟩, hm, hL⟩
  refine ⟨m1, hA, PH.le_trans h1 hm, ih ⟨PH.sub m m1, hLs, PH.sub_mono m1 hm, SatL.mono ?_ hL⟩⟩
  intro b o hb
  unfold PH.sub at *
  split at hb
  ·
   cases hb
  rename_i hmb
  have hmn : m b = none := by simpa using hmb
  have h1n : m1 b = none := by
   cases e : m1 b with
   | none => rfl
   | some o1 => rw [h1 _ _ e] at hmn; cases hmn
  simp [h1n, hmn]; exact hb
theorem SatL.split {Ls L : List HProp} : ∀ {h : PH}, SatL h (Ls ++ L) → ∃ m, SatL m Ls ∧ PH.le m h ∧ SatL (PH.sub h m) L := by
 induction Ls with
 | nil =>
  intro h hL
  exact ⟨fun _ => none, trivial, fun _ _ e => (by cases e), SatL.mono (fun b o hb => by simpa [PH.sub] using hb) hL⟩
 | cons A Ls ih =>
  rintro h ⟨m1, hA, h1, hL⟩
  obtain ⟨m2, hLs, h2, hR⟩ := ih hL
  refine ⟨fun b => (m1 b).or (m2 b), ⟨m1, hA, fun b o hb => by simp [hb], SatL.mono ?_ hLs⟩, ?_, SatL.mono ?_ hR⟩
  ·
   intro b o hb
   have := h2 _ _ hb
   unfold PH.sub at this ⊢
   split at this
   ·
    cases this
   rename_i hn
   have hn' : m1 b = none := by simpa using hn
   simp [hn', hb]
  ·
   intro b o hb
   cases e : m1 b with
   | some o1 => simp [e] at hb; subst hb; exact h1 _ _ e
   | none => simp [e] at hb; exact PH.sub_le _ _ _ _ (h2 _ _ hb)
  intro b o hb
  unfold PH.sub at *
  cases e1 : m1 b <;> cases e2 : m2 b <;> simp_all
theorem SatL.resep {Ls L : List HProp} {h : PH} (hs : SatL h (Ls ++ L)) : SatL h (sep Ls :: L) :=
 let ⟨m, h1, h2, h3⟩ := SatL.split hs
 ⟨m, h1, h2, h3⟩
inductive At (A A' : HProp) : List HProp → List HProp → Prop
 | here {L} : At A A' (A :: L) (A' :: L)
 | there {B L L'} (h : At A A' L L') : At A A' (B :: L) (B :: L')
theorem At.mem {A A' : HProp} {L L' : List HProp} (h : At A A' L L') : A ∈ L := by
 induction h with
 | here => exact .head _
 | there _ ih => exact .tail _ ih
theorem SatL.modify {b : Nat} {o' : Obj} {A A' : HProp} {L L' : List HProp} (hz : At A A' L L') :
 ∀ {h : PH}, (∀ m, A m → PH.le m h → (∃ o, m b = some o) ∧ A' (PH.set m b o')) → SatL h L → SatL (PH.set h b o') L' := by
 induction hz with
 | here =>
  rintro h hA ⟨m, h1, h2, h3⟩
  obtain ⟨⟨o, ho⟩, hA'⟩ := hA m h1 h2
  refine ⟨PH.set m b o', hA', ?_, SatL.mono ?_ h3⟩
  ·
   intro x y hx
   unfold PH.set at *
   split at hx
   ·
    rename_i e; rw [if_pos e]; exact hx
   rename_i e; rw [if_neg e]; exact h2 _ _ hx
  intro x y hx
  unfold PH.sub PH.set at *
  by_cases e : x = b
  ·
   subst e; rw [ho] at hx; simp at hx
  simp only [if_neg e]; exact hx
 | there hz ih =>
  rename_i B L L'
  rintro h hA ⟨m0, h1, h2, h3⟩
  have key := ih (h := PH.sub h m0) (fun m hm hle => hA m hm (PH.le_trans hle (PH.sub_le _ _))) h3
  obtain ⟨m, hm, hle⟩ := SatL.get hz.mem h3
  obtain ⟨⟨o, ho⟩, _⟩ := hA m hm (PH.le_trans hle (PH.sub_le _ _))
  have hb : m0 b = none := by
   have := hle _ _ ho
   unfold PH.sub at this
   split at this
   ·
    cases this
   rename_i hn; simpa using hn
  refine ⟨m0, h1, ?_, SatL.mono ?_ key⟩
  ·
   intro x y hx
   unfold PH.set
   by_cases e : x = b
   ·
    subst e; rw [hb] at hx; cases hx
   rw [if_neg e]; exact h2 _ _ hx
  intro x y hx
  unfold PH.sub PH.set at *
  by_cases e : x = b
  ·
   subst e; simpa [hb] using hx
  simpa [if_neg e] using hx
theorem SatL.alloc {h : PH} {b : Nat} {o : Obj} {A : HProp} {L : List HProp} (hb : h b = none) (hA : A (PH.set (fun _ => none) b o)) (hL : SatL h L) :
 SatL (PH.set h b o) (A :: L) := by
 refine ⟨_, hA, ?_, SatL.mono ?_ hL⟩
 ·
  intro x y hx
  unfold PH.set at *
  split at hx
  ·
   rename_i e; rw [if_pos e]; exact hx
  cases hx
 intro x y hx
 unfold PH.sub PH.set
 by_cases e : x = b
 ·
  subst e; rw [hb] at hx; cases hx
 simp only [if_neg e]; simpa using hx
def blk (b n : Nat) (F : Nat → Value) : HProp := fun m => ∃ cs T, m b = some (.cells cs T (0, 0)) ∧ cs.size = n ∧ ∀ i, i < n → cs[i]? = some (F i)
def upd (F : Nat → Value) (i : Nat) (v : Value) : Nat → Value := fun j => if j = i then v else F j
def mapb (b : Nat) (M : Array MapEntry → Nat → Prop) : HProp := fun m => ∃ es c, m b = some (.map es c) ∧ M es c
def hpure (p : Prop) : HProp := fun _ => p
def hex {α : Type} (A : α → HProp) : HProp := fun m => ∃ x, A x m
theorem upd_same (F : Nat → Value) (i : Nat) (v : Value) : upd F i v i = v := if_pos rfl
theorem upd_ne (F : Nat → Value) {i j : Nat} (v : Value) (h : j ≠ i) : upd F i v j = F j := if_neg h
theorem SatL.ex {α : Type} {A : α → HProp} {h : PH} {L : List HProp} : SatL h (hex A :: L) → ∃ x, SatL h (A x :: L) :=
 fun ⟨m, ⟨x, hx⟩, h2, h3⟩ => ⟨x, m, hx, h2, h3⟩
theorem SatL.pure {p : Prop} {h : PH} {L : List HProp} : SatL h (hpure p :: L) → p ∧ SatL h L :=
 fun ⟨m, hp, _, h3⟩ => ⟨hp, SatL.mono (PH.sub_le _ _) h3⟩
def own (G w : World) : PH := fun b => if b < G.heap.size then none else w.heap[b]?
structure Sat (G w : World) (L : List HProp) : Prop where
 base : ∀ b, b < G.heap.size → w.heap[b]? = G.heap[b]?
 size : G.heap.size ≤ w.heap.size
 os : w.os = G.os
 output : w.output = G.output
 calm : ∀ b c t f, G.heap.size ≤ b → w.heap[b]? = some (.cells c t f) → f = (0, 0)
 sat : SatL (own G w) L
theorem Sat.start (G : World) (hc : ∀ b c t f, G.heap.size ≤ b → G.heap[b]? = some (.cells c t f) → f = (0, 0)) : Sat G G [] :=
 ⟨fun _ _ => rfl, Nat.le_refl _, rfl, rfl, hc, trivial⟩
theorem Sat.begin (G : World) : Sat G G [] := Sat.start G (fun b c t f hb h => by
 rw [Array.getElem?_eq_none (by omega)] at h
 cases h)
theorem Sat.perm {G w : World} {L L' : List HProp} (p : L.Perm L') (h : Sat G w L) : Sat G w L' := { h with sat := SatL.perm p h.sat }
theorem Sat.imp {G w : World} {A B : HProp} {L : List HProp} (e : ∀ m, A m → B m) (h : Sat G w (A :: L)) : Sat G w (B :: L) := { h with sat := SatL.imp e h.sat }
theorem Sat.tail {G w : World} {A : HProp} {L : List HProp} (h : Sat G w (A :: L)) : Sat G w L := { h with sat := SatL.tail h.sat }
theorem Sat.unsep {G w : World} {Ls L : List HProp} (h : Sat G w (sep Ls :: L)) : Sat G w (Ls ++ L) := { h with sat := SatL.unsep h.sat }
theorem Sat.resep {G w : World} {Ls L : List HProp} (h : Sat G w (Ls ++ L)) : Sat G w (sep Ls :: L) := { h with sat := SatL.resep h.sat }
theorem Sat.ex {α : Type} {A : α → HProp} {G w : World} {L : List HProp} (h : Sat G w (hex A :: L)) : ∃ x, Sat G w (A x :: L) :=
 let ⟨x, hx⟩ := SatL.ex h.sat; ⟨x, { h with sat := hx }⟩
theorem Sat.pure {p : Prop} {G w : World} {L : List HProp} (h : Sat G w (hpure p :: L)) : p ∧ Sat G w L :=
 ⟨(SatL.pure h.sat).1, { h with sat := (SatL.pure h.sat).2 }⟩
theorem Sat.nil {G w : World} {L : List HProp} (h : Sat G w L) : Sat G w [] := { h with sat := trivial }
theorem Sat.emp {G w : World} {A : HProp} {L : List HProp} (hA : A (fun _ => none)) (h : Sat G w L) : Sat G w (A :: L) :=
 { h with sat := ⟨_, hA, fun _ _ e => (by cases e), SatL.mono (fun b o hb => by simpa [PH.sub] using hb) h.sat⟩ }
theorem Sat.drew {G w : World} {L : List HProp} (h : Sat G w L) (n : Nat) : Sat G { w with drawn := n } L := ⟨h.base, h.size, h.os, h.output, h.calm, h.sat⟩
theorem Sat.obj {G w : World} {L : List HProp} {A : HProp} (hA : A ∈ L) (h : Sat G w L) : ∃ m, A m ∧ ∀ b o, m b = some o → G.heap.size ≤ b ∧ w.heap[b]? = some o := by
 obtain ⟨m, h1, h2⟩ := SatL.get hA h.sat
 refine ⟨m, h1, fun b o hb => ?_⟩
 have := h2 _ _ hb
 unfold Eng.own at this
 split at this
 ·
  cases this
 rename_i hn; exact ⟨by omega, this⟩
theorem Sat.blk {G w : World} {L : List HProp} {b n : Nat} {F : Nat → Value} (hA : blk b n F ∈ L) (h : Sat G w L) :
 ∃ cs T, G.heap.size ≤ b ∧ w.heap[b]? = some (.cells cs T (0, 0)) ∧ cs.size = n ∧ ∀ i, i < n → cs[i]? = some (F i) := by
 obtain ⟨m, ⟨cs, T, h1, h2, h3⟩, h4⟩ := h.obj hA
 exact ⟨cs, T, (h4 _ _ h1).1, (h4 _ _ h1).2, h2, h3⟩
theorem Sat.cell {G w : World} {L : List HProp} {b n : Nat} {F : Nat → Value} (hA : Eng.blk b n F ∈ L) (h : Sat G w L) {i : Nat} (hi : i < n) :
 w.cell? ⟨b, i, none⟩ = some (F i) := by
 obtain ⟨cs, T, _, h1, h2, h3⟩ := h.blk hA
 simp [World.cell?, h1, h3 i hi]
theorem Sat.frozen {G w : World} {L : List HProp} {b n : Nat} {F : Nat → Value} (hA : Eng.blk b n F ∈ L) (h : Sat G w L) (i : Nat) :
 w.frozen? ⟨b, i, none⟩ = false := by
 obtain ⟨cs, T, _, h1, h2, h3⟩ := h.blk hA
 simp [World.frozen?, h1]
theorem own_setObj {G w : World} {b : Nat} {o : Obj} (hb : G.heap.size ≤ b) (hw : b < w.heap.size) (w' : World) (hw' : ∀ x : Nat, w'.heap[x]? = if x = b then some o else w.heap[x]?) :
 own G w' = PH.set (own G w) b o := by
 funext x
 unfold own PH.set
 by_cases hx : x < G.heap.size
 ·
  simp only [if_pos hx]; rw [if_neg (by omega)]
 simp only [if_neg hx]; rw [hw']
theorem Sat.setObj {G w w' : World} {L L' : List HProp} {A A' : HProp} {b : Nat} {o' : Obj} (h : Sat G w L) (hz : At A A' L L')
 (hA : ∀ m, A m → (∃ o, m b = some o) ∧ A' (PH.set m b o')) (hc : ∀ c t f, o' = .cells c t f → f = (0, 0))
 (hw' : ∀ x : Nat, w'.heap[x]? = if x = b then some o' else w.heap[x]?) (hsz : w'.heap.size = w.heap.size) (hos : w'.os = w.os) (hout : w'.output = w.output) : Sat G w' L' := by
 obtain ⟨m, hm, hmo⟩ := h.obj hz.mem
 obtain ⟨⟨o, ho⟩, _⟩ := hA m hm
 obtain ⟨hb, hbo⟩ := hmo _ _ ho
 have hlt : b < w.heap.size := (Array.getElem?_eq_some_iff.1 hbo).1
 refine ⟨fun x hx => ?_, by rw [hsz]; exact h.size, by rw [hos]; exact h.os, by rw [hout]; exact h.output, fun x c t f hx hxo => ?_, ?_⟩
 ·
  rw [hw', if_neg (by omega)]; exact h.base x hx
 ·
  rw [hw'] at hxo
  split at hxo
  ·
   exact hc _ _ _ (Option.some.inj hxo)
  exact h.calm _ _ _ _ hx hxo
 rw [own_setObj hb hlt w' hw']
 exact SatL.modify hz (fun _ hm _ => hA _ hm) h.sat
theorem Sat.setCell {G w : World} {L L' : List HProp} {b n i : Nat} {F : Nat → Value} {v : Value} (h : Sat G w L) (hi : i < n)
 (hz : At (Eng.blk b n F) (Eng.blk b n (upd F i v)) L L') : Sat G (w.setCell ⟨b, i, none⟩ v) L' := by
 obtain ⟨cs, T, hb, h1, h2, h3⟩ := h.blk hz.mem
 have hlt : b < w.heap.size := (Array.getElem?_eq_some_iff.1 h1).1
 have hob := (Array.getElem?_eq_some_iff.1 h1).2
 have hheap : ∀ x : Nat, (w.setCell ⟨b, i, none⟩ v).heap[x]? = if x = b then some (.cells (cs.setIfInBounds i v) T (0, 0)) else w.heap[x]? := by
  intro x
  simp only [World.setCell, Array.getElem?_modify]
  by_cases hx : b = x
  ·
   subst hx; rw [if_pos rfl, if_pos rfl, h1]; rfl
  rw [if_neg hx, if_neg (fun e => hx e.symm)]
 refine h.setObj (b := b) hz (o' := .cells (cs.setIfInBounds i v) T (0, 0)) ?_ (fun c t f e => by cases e; rfl) hheap (by simp [World.setCell]) rfl rfl
 rintro _ ⟨cs', T', e1, e2, e3⟩
 refine ⟨⟨_, e1⟩, cs.setIfInBounds i v, T, by simp [PH.set], by simp [h2], fun j hj => ?_⟩
 unfold upd
 by_cases hj' : j = i
 ·
  subst hj'; simp [h2, hj]
 rw [if_neg hj', Array.getElem?_setIfInBounds_ne (fun e => hj' e.symm)]; exact h3 j hj
theorem own_push {G w w' : World} {o : Obj} (hsz : G.heap.size ≤ w.heap.size) (hw' : w'.heap = w.heap.push o) :
 own G w' = PH.set (own G w) w.heap.size o := by
 funext x
 unfold own PH.set
 rw [hw']
 by_cases hx : x < G.heap.size
 ·
  simp only [if_pos hx]; rw [if_neg (by omega)]
 simp only [if_neg hx]; rw [Array.getElem?_push]
theorem Sat.push {G w w' : World} {L : List HProp} {A : HProp} {o : Obj} (h : Sat G w L) (hA : A (PH.set (fun _ => none) w.heap.size o)) (hc : ∀ c t f, o = .cells c t f → f = (0, 0))
 (hw' : w'.heap = w.heap.push o) (hos : w'.os = w.os) (hout : w'.output = w.output) : Sat G w' (A :: L) := by
 refine ⟨fun x hx => ?_, by rw [hw']; simp; have := h.size; omega, by rw [hos]; exact h.os, by rw [hout]; exact h.output, fun x c t f hx hxo => ?_, ?_⟩
 ·
  rw [hw', Array.getElem?_push, if_neg (by have := h.size; omega)]; exact h.base x hx
 ·
  rw [hw', Array.getElem?_push] at hxo
  split at hxo
  ·
   exact hc _ _ _ (Option.some.inj hxo)
  exact h.calm _ _ _ _ hx hxo
 rw [own_push h.size hw']
 refine SatL.alloc ?_ hA h.sat
 unfold own
 rw [if_neg (by have := h.size; omega)]
 simp
theorem Sat.alloc {G w : World} {L : List HProp} {cs : Array Value} {T : TypeId} {n : Nat} {F : Nat → Value} (h : Sat G w L) (hn : cs.size = n) (hF : ∀ i, i < n → cs[i]? = some (F i)) :
 Sat G { w with heap := w.heap.push (.cells cs T) } (Eng.blk w.heap.size n F :: L) :=
 h.push (o := .cells cs T) ⟨cs, T, by simp [PH.set], hn, hF⟩ (fun c t f e => by cases e; rfl) rfl rfl rfl
theorem Sat.allocMap {G w : World} {L : List HProp} {M : Array MapEntry → Nat → Prop} (h : Sat G w L) (hM : M #[] 0) :
 Sat G { w with heap := w.heap.push (.map #[] 0) } (mapb w.heap.size M :: L) :=
 h.push (o := .map #[] 0) ⟨#[], 0, by simp [PH.set], hM⟩ (fun c t f e => by cases e) rfl rfl rfl
theorem Sat.base_cell {G w : World} {L : List HProp} (h : Sat G w L) {a : Addr} (ha : a.block < G.heap.size) : w.cell? a = G.cell? a := by
 unfold World.cell?; rw [h.base _ ha]
theorem cell?_lt {G : World} {a : Addr} {v : Value} (h : G.cell? a = some v) : a.block < G.heap.size := by
 unfold World.cell? at h
 rcases Nat.lt_or_ge a.block G.heap.size with h' | h'
 ·
  exact h'
 rw [Array.getElem?_eq_none h'] at h; cases h
theorem Sat.base_some {G w : World} {L : List HProp} (h : Sat G w L) {a : Addr} {v : Value} (ha : G.cell? a = some v) : w.cell? a = some v := by
 rw [h.base_cell (cell?_lt ha)]; exact ha
open Go.RowKit in
theorem Sat.grown {G w : World} {L : List HProp} (h : Sat G w L) : Grown G w := by
 refine ⟨⟨h.os, h.output, fun i hi => ?_⟩, fun a => ?_, h.size⟩
 ·
  rw [h.base i hi]
  cases e : G.heap[i]? with
  | none => rfl
  | some o => cases o <;> simp
 unfold World.frozen?
 by_cases ha : a.block < G.heap.size
 ·
  rw [h.base _ ha]
 rw [Array.getElem?_eq_none (Nat.le_of_not_lt ha)]
 cases e : w.heap[a.block]? with
 | none => rfl
 | some o =>
  cases o with
  | cells c t f =>
   have := h.calm _ _ _ _ (Nat.le_of_not_lt ha) e
   subst this; simp
  | _ => rfl
end Go.Eng
namespace Go.Eng
open Go
abbrev Env := List (Nat × Value)
structure Ok (ρ : Env) (n : Nat) (a : Act) : Prop where
 size : a.tmps.size = n
 defers : a.defers = []
 vals : ∀ t v, (t, v) ∈ ρ → a.tmps.getD t undef = v
def chk (d n : Nat) (ρ : Env) : Bool := Nat.blt d n && ρ.all (fun x => !(Nat.beq x.1 d))
theorem Ok.put {ρ : Env} {n d : Nat} {a : Act} {v : Value} (h : Ok ρ n a) (hc : chk d n ρ = true) : Ok ((d, v) :: ρ) n (a.put (some d) v) := by
 unfold chk at hc
 simp only [Bool.and_eq_true, List.all_eq_true, Bool.not_eq_true'] at hc
 obtain ⟨h1, h2⟩ := hc
 have hd : d < n := by simpa [Nat.blt_eq] using h1
 refine ⟨by simp [Act.put, h.size], h.defers, fun t u hm => ?_⟩
 cases hm with
 | head => simp [Act.put, h.size, hd]
 | tail _ hm =>
  have hne : ¬ t = d := fun e => by
   have := h2 _ hm
   simp only at this
   subst e
   rw [Nat.beq_refl] at this
   cases this
  have hv := h.vals t u hm
  simp only [Act.put, Array.getD_eq_getD_getElem?] at *
  rw [Array.getElem?_setIfInBounds_ne (fun e => hne e.symm)]
  exact hv
theorem Ok.forget {ρ : Env} {n d : Nat} {a : Act} {v : Value} (h : Ok ρ n a) (hc : ρ.all (fun x => !(Nat.beq x.1 d)) = true) : Ok ρ n (a.put (some d) v) := by
 simp only [List.all_eq_true, Bool.not_eq_true'] at hc
 refine ⟨by simp [Act.put, h.size], h.defers, fun t u hm => ?_⟩
 have hne : ¬ t = d := fun e => by
  have := hc _ hm
  simp only at this
  subst e
  rw [Nat.beq_refl] at this
  cases this
 have hv := h.vals t u hm
 simp only [Act.put, Array.getD_eq_getD_getElem?] at *
 rw [Array.getElem?_setIfInBounds_ne (fun e => hne e.symm)]
 exact hv
def Sub (ρ' ρ : Env) : Prop := ∀ x ∈ ρ', x ∈ ρ
theorem Sub.nil {ρ : Env} : Sub [] ρ := fun _ h => by cases h
theorem Sub.cons {ρ ρ' : Env} {t : Nat} {v : Value} (h : (t, v) ∈ ρ) (hs : Sub ρ' ρ) : Sub ((t, v) :: ρ') ρ := fun x hx => by
 cases hx with
 | head => exact h
 | tail _ hx => exact hs x hx
theorem Sub.eq {ρ ρ' : Env} {t : Nat} {v v' : Value} (h : (t, v) ∈ ρ) (e : v = v') (hs : Sub ρ' ρ) : Sub ((t, v') :: ρ') ρ := Sub.cons (e ▸ h) hs
theorem Sub.refl {ρ : Env} : Sub ρ ρ := fun _ h => h
theorem Sub.tl {ρ ρ' : Env} {x : Nat × Value} (hs : Sub ρ' ρ) : Sub ρ' (x :: ρ) := fun y hy => .tail _ (hs y hy)
theorem Sub.hd {ρ ρ' : Env} {x : Nat × Value} (hs : Sub ρ' ρ) : Sub (x :: ρ') (x :: ρ) := fun y hy => by
 cases hy with
 | head => exact .head _
 | tail _ hy => exact .tail _ (hs y hy)
theorem Ok.sub {ρ ρ' : Env} {n : Nat} {a : Act} (h : Ok ρ n a) (hs : Sub ρ' ρ) : Ok ρ' n a := ⟨h.size, h.defers, fun t v hm => h.vals t v (hs _ hm)⟩
inductive Rm (d : Nat) : Env → Env → Prop
 | here {v ρ} : Rm d ((d, v) :: ρ) ρ
 | there {x ρ ρ'} (h : Rm d ρ ρ') : Rm d (x :: ρ) (x :: ρ')
theorem Rm.sub {d : Nat} {ρ ρ' : Env} (h : Rm d ρ ρ') : Sub ρ' ρ := by
 induction h with
 | here => exact Sub.refl.tl
 | there _ ih => exact ih.hd
theorem m0 {α : Type} {x : α} {l : List α} : x ∈ x :: l := .head _
theorem m1 {α : Type} {x : α} {y0 : α} {l : List α} : x ∈ y0 :: x :: l := .tail _ m0
theorem m2 {α : Type} {x : α} {y0 y1 : α} {l : List α} : x ∈ y0 :: y1 :: x :: l := .tail _ m1
theorem m3 {α : Type} {x : α} {y0 y1 y2 : α} {l : List α} : x ∈ y0 :: y1 :: y2 :: x :: l := .tail _ m2
theorem m4 {α : Type} {x : α} {y0 y1 y2 y3 : α} {l : List α} : x ∈ y0 :: y1 :: y2 :: y3 :: x :: l := .tail _ m3
theorem m5 {α : Type} {x : α} {y0 y1 y2 y3 y4 : α} {l : List α} : x ∈ y0 :: y1 :: y2 :: y3 :: y4 :: x :: l := .tail _ m4
theorem m6 {α : Type} {x : α} {y0 y1 y2 y3 y4 y5 : α} {l : List α} : x ∈ y0 :: y1 :: y2 :: y3 :: y4 :: y5 :: x :: l := .tail _ m5
theorem m7 {α : Type} {x : α} {y0 y1 y2 y3 y4 y5 y6 : α} {l : List α} : x ∈ y0 :: y1 :: y2 :: y3 :: y4 :: y5 :: y6 :: x :: l := .tail _ m6
theorem m8 {α : Type} {x : α} {y0 y1 y2 y3 y4 y5 y6 y7 : α} {l : List α} : x ∈ y0 :: y1 :: y2 :: y3 :: y4 :: y5 :: y6 :: y7 :: x :: l := .tail _ m7
theorem m9 {α : Type} {x : α} {y0 y1 y2 y3 y4 y5 y6 y7 y8 : α} {l : List α} : x ∈ y0 :: y1 :: y2 :: y3 :: y4 :: y5 :: y6 :: y7 :: y8 :: x :: l := .tail _ m8
theorem m10 {α : Type} {x : α} {y0 y1 y2 y3 y4 y5 y6 y7 y8 y9 : α} {l : List α} : x ∈ y0 :: y1 :: y2 :: y3 :: y4 :: y5 :: y6 :: y7 :: y8 :: y9 :: x :: l := .tail _ m9
theorem m11 {α : Type} {x : α} {y0 y1 y2 y3 y4 y5 y6 y7 y8 y9 y10 : α} {l : List α} : x ∈ y0 :: y1 :: y2 :: y3 :: y4 :: y5 :: y6 :: y7 :: y8 :: y9 :: y10 :: x :: l := .tail _ m10
theorem m12 {α : Type} {x : α} {y0 y1 y2 y3 y4 y5 y6 y7 y8 y9 y10 y11 : α} {l : List α} : x ∈ y0 :: y1 :: y2 :: y3 :: y4 :: y5 :: y6 :: y7 :: y8 :: y9 :: y10 :: y11 :: x :: l := .tail _ m11
theorem m13 {α : Type} {x : α} {y0 y1 y2 y3 y4 y5 y6 y7 y8 y9 y10 y11 y12 : α} {l : List α} : x ∈ y0 :: y1 :: y2 :: y3 :: y4 :: y5 :: y6 :: y7 :: y8 :: y9 :: y10 :: y11 :: y12 :: x :: l := .tail _ m12
theorem m14 {α : Type} {x : α} {y0 y1 y2 y3 y4 y5 y6 y7 y8 y9 y10 y11 y12 y13 : α} {l : List α} : x ∈ y0 :: y1 :: y2 :: y3 :: y4 :: y5 :: y6 :: y7 :: y8 :: y9 :: y10 :: y11 :: y12 :: y13 :: x :: l := .tail _ m13
theorem m15 {α : Type} {x : α} {y0 y1 y2 y3 y4 y5 y6 y7 y8 y9 y10 y11 y12 y13 y14 : α} {l : List α} : x ∈ y0 :: y1 :: y2 :: y3 :: y4 :: y5 :: y6 :: y7 :: y8 :: y9 :: y10 :: y11 :: y12 :: y13 :: y14 :: x :: l := .tail _ m14
theorem m16 {α : Type} {x : α} {y0 y1 y2 y3 y4 y5 y6 y7 y8 y9 y10 y11 y12 y13 y14 y15 : α} {l : List α} : x ∈ y0 :: y1 :: y2 :: y3 :: y4 :: y5 :: y6 :: y7 :: y8 :: y9 :: y10 :: y11 :: y12 :: y13 :: y14 :: y15 :: x :: l := .tail _ m15
theorem m17 {α : Type} {x : α} {y0 y1 y2 y3 y4 y5 y6 y7 y8 y9 y10 y11 y12 y13 y14 y15 y16 : α} {l : List α} : x ∈ y0 :: y1 :: y2 :: y3 :: y4 :: y5 :: y6 :: y7 :: y8 :: y9 :: y10 :: y11 :: y12 :: y13 :: y14 :: y15 :: y16 :: x :: l := .tail _ m16
theorem m18 {α : Type} {x : α} {y0 y1 y2 y3 y4 y5 y6 y7 y8 y9 y10 y11 y12 y13 y14 y15 y16 y17 : α} {l : List α} : x ∈ y0 :: y1 :: y2 :: y3 :: y4 :: y5 :: y6 :: y7 :: y8 :: y9 :: y10 :: y11 :: y12 :: y13 :: y14 :: y15 :: y16 :: y17 :: x :: l := .tail _ m17
theorem m19 {α : Type} {x : α} {y0 y1 y2 y3 y4 y5 y6 y7 y8 y9 y10 y11 y12 y13 y14 y15 y16 y17 y18 : α} {l : List α} : x ∈ y0 :: y1 :: y2 :: y3 :: y4 :: y5 :: y6 :: y7 :: y8 :: y9 :: y10 :: y11 :: y12 :: y13 :: y14 :: y15 :: y16 :: y17 :: y18 :: x :: l := .tail _ m18
theorem m20 {α : Type} {x : α} {y0 y1 y2 y3 y4 y5 y6 y7 y8 y9 y10 y11 y12 y13 y14 y15 y16 y17 y18 y19 : α} {l : List α} : x ∈ y0 :: y1 :: y2 :: y3 :: y4 :: y5 :: y6 :: y7 :: y8 :: y9 :: y10 :: y11 :: y12 :: y13 :: y14 :: y15 :: y16 :: y17 :: y18 :: y19 :: x :: l := .tail _ m19
theorem m21 {α : Type} {x : α} {y0 y1 y2 y3 y4 y5 y6 y7 y8 y9 y10 y11 y12 y13 y14 y15 y16 y17 y18 y19 y20 : α} {l : List α} : x ∈ y0 :: y1 :: y2 :: y3 :: y4 :: y5 :: y6 :: y7 :: y8 :: y9 :: y10 :: y11 :: y12 :: y13 :: y14 :: y15 :: y16 :: y17 :: y18 :: y19 :: y20 :: x :: l := .tail _ m20
theorem m22 {α : Type} {x : α} {y0 y1 y2 y3 y4 y5 y6 y7 y8 y9 y10 y11 y12 y13 y14 y15 y16 y17 y18 y19 y20 y21 : α} {l : List α} : x ∈ y0 :: y1 :: y2 :: y3 :: y4 :: y5 :: y6 :: y7 :: y8 :: y9 :: y10 :: y11 :: y12 :: y13 :: y14 :: y15 :: y16 :: y17 :: y18 :: y19 :: y20 :: y21 :: x :: l := .tail _ m21
theorem m23 {α : Type} {x : α} {y0 y1 y2 y3 y4 y5 y6 y7 y8 y9 y10 y11 y12 y13 y14 y15 y16 y17 y18 y19 y20 y21 y22 : α} {l : List α} : x ∈ y0 :: y1 :: y2 :: y3 :: y4 :: y5 :: y6 :: y7 :: y8 :: y9 :: y10 :: y11 :: y12 :: y13 :: y14 :: y15 :: y16 :: y17 :: y18 :: y19 :: y20 :: y21 :: y22 :: x :: l := .tail _ m22
theorem m24 {α : Type} {x : α} {y0 y1 y2 y3 y4 y5 y6 y7 y8 y9 y10 y11 y12 y13 y14 y15 y16 y17 y18 y19 y20 y21 y22 y23 : α} {l : List α} : x ∈ y0 :: y1 :: y2 :: y3 :: y4 :: y5 :: y6 :: y7 :: y8 :: y9 :: y10 :: y11 :: y12 :: y13 :: y14 :: y15 :: y16 :: y17 :: y18 :: y19 :: y20 :: y21 :: y22 :: y23 :: x :: l := .tail _ m23
theorem m25 {α : Type} {x : α} {y0 y1 y2 y3 y4 y5 y6 y7 y8 y9 y10 y11 y12 y13 y14 y15 y16 y17 y18 y19 y20 y21 y22 y23 y24 : α} {l : List α} : x ∈ y0 :: y1 :: y2 :: y3 :: y4 :: y5 :: y6 :: y7 :: y8 :: y9 :: y10 :: y11 :: y12 :: y13 :: y14 :: y15 :: y16 :: y17 :: y18 :: y19 :: y20 :: y21 :: y22 :: y23 :: y24 :: x :: l := .tail _ m24
theorem m26 {α : Type} {x : α} {y0 y1 y2 y3 y4 y5 y6 y7 y8 y9 y10 y11 y12 y13 y14 y15 y16 y17 y18 y19 y20 y21 y22 y23 y24 y25 : α} {l : List α} : x ∈ y0 :: y1 :: y2 :: y3 :: y4 :: y5 :: y6 :: y7 :: y8 :: y9 :: y10 :: y11 :: y12 :: y13 :: y14 :: y15 :: y16 :: y17 :: y18 :: y19 :: y20 :: y21 :: y22 :: y23 :: y24 :: y25 :: x :: l := .tail _ m25
theorem m27 {α : Type} {x : α} {y0 y1 y2 y3 y4 y5 y6 y7 y8 y9 y10 y11 y12 y13 y14 y15 y16 y17 y18 y19 y20 y21 y22 y23 y24 y25 y26 : α} {l : List α} : x ∈ y0 :: y1 :: y2 :: y3 :: y4 :: y5 :: y6 :: y7 :: y8 :: y9 :: y10 :: y11 :: y12 :: y13 :: y14 :: y15 :: y16 :: y17 :: y18 :: y19 :: y20 :: y21 :: y22 :: y23 :: y24 :: y25 :: y26 :: x :: l := .tail _ m26
theorem p1 {x y0 : HProp} {L : List HProp} : (y0 :: x :: L).Perm (x :: y0 :: L) := List.perm_middle (l₁ := [y0])
theorem p2 {x y0 y1 : HProp} {L : List HProp} : (y0 :: y1 :: x :: L).Perm (x :: y0 :: y1 :: L) := List.perm_middle (l₁ := [y0, y1])
theorem p3 {x y0 y1 y2 : HProp} {L : List HProp} : (y0 :: y1 :: y2 :: x :: L).Perm (x :: y0 :: y1 :: y2 :: L) := List.perm_middle (l₁ := [y0, y1, y2])
theorem p4 {x y0 y1 y2 y3 : HProp} {L : List HProp} : (y0 :: y1 :: y2 :: y3 :: x :: L).Perm (x :: y0 :: y1 :: y2 :: y3 :: L) := List.perm_middle (l₁ := [y0, y1, y2, y3])
theorem p5 {x y0 y1 y2 y3 y4 : HProp} {L : List HProp} : (y0 :: y1 :: y2 :: y3 :: y4 :: x :: L).Perm (x :: y0 :: y1 :: y2 :: y3 :: y4 :: L) := List.perm_middle (l₁ := [y0, y1, y2, y3, y4])
theorem p6 {x y0 y1 y2 y3 y4 y5 : HProp} {L : List HProp} : (y0 :: y1 :: y2 :: y3 :: y4 :: y5 :: x :: L).Perm (x :: y0 :: y1 :: y2 :: y3 :: y4 :: y5 :: L) := List.perm_middle (l₁ := [y0, y1, y2, y3, y4, y5])
theorem p7 {x y0 y1 y2 y3 y4 y5 y6 : HProp} {L : List HProp} : (y0 :: y1 :: y2 :: y3 :: y4 :: y5 :: y6 :: x :: L).Perm (x :: y0 :: y1 :: y2 :: y3 :: y4 :: y5 :: y6 :: L) := List.perm_middle (l₁ := [y0, y1, y2, y3, y4, y5, y6])
theorem a0 {A A' : HProp} {L : List HProp} : At A A' (A :: L) (A' :: L) := .here
theorem a1 {A A' y0 : HProp} {L : List HProp} : At A A' (y0 :: A :: L) (y0 :: A' :: L) := .there a0
theorem a2 {A A' y0 y1 : HProp} {L : List HProp} : At A A' (y0 :: y1 :: A :: L) (y0 :: y1 :: A' :: L) := .there a1
theorem a3 {A A' y0 y1 y2 : HProp} {L : List HProp} : At A A' (y0 :: y1 :: y2 :: A :: L) (y0 :: y1 :: y2 :: A' :: L) := .there a2
theorem a4 {A A' y0 y1 y2 y3 : HProp} {L : List HProp} : At A A' (y0 :: y1 :: y2 :: y3 :: A :: L) (y0 :: y1 :: y2 :: y3 :: A' :: L) := .there a3
theorem a5 {A A' y0 y1 y2 y3 y4 : HProp} {L : List HProp} : At A A' (y0 :: y1 :: y2 :: y3 :: y4 :: A :: L) (y0 :: y1 :: y2 :: y3 :: y4 :: A' :: L) := .there a4
theorem a6 {A A' y0 y1 y2 y3 y4 y5 : HProp} {L : List HProp} : At A A' (y0 :: y1 :: y2 :: y3 :: y4 :: y5 :: A :: L) (y0 :: y1 :: y2 :: y3 :: y4 :: y5 :: A' :: L) := .there a5
theorem a7 {A A' y0 y1 y2 y3 y4 y5 y6 : HProp} {L : List HProp} : At A A' (y0 :: y1 :: y2 :: y3 :: y4 :: y5 :: y6 :: A :: L) (y0 :: y1 :: y2 :: y3 :: y4 :: y5 :: y6 :: A' :: L) := .there a6
theorem a8 {A A' y0 y1 y2 y3 y4 y5 y6 y7 : HProp} {L : List HProp} : At A A' (y0 :: y1 :: y2 :: y3 :: y4 :: y5 :: y6 :: y7 :: A :: L) (y0 :: y1 :: y2 :: y3 :: y4 :: y5 :: y6 :: y7 :: A' :: L) := .there a7
theorem a9 {A A' y0 y1 y2 y3 y4 y5 y6 y7 y8 : HProp} {L : List HProp} : At A A' (y0 :: y1 :: y2 :: y3 :: y4 :: y5 :: y6 :: y7 :: y8 :: A :: L) (y0 :: y1 :: y2 :: y3 :: y4 :: y5 :: y6 :: y7 :: y8 :: A' :: L) := .there a8
theorem a10 {A A' y0 y1 y2 y3 y4 y5 y6 y7 y8 y9 : HProp} {L : List HProp} : At A A' (y0 :: y1 :: y2 :: y3 :: y4 :: y5 :: y6 :: y7 :: y8 :: y9 :: A :: L) (y0 :: y1 :: y2 :: y3 :: y4 :: y5 :: y6 :: y7 :: y8 :: y9 :: A' :: L) := .there a9
inductive OV (ρ : Env) : Operand → Value → Prop
 | t {t v} (h : (t, v) ∈ ρ) : OV ρ (.tmp t) v
 | c {v} : OV ρ (.const v) v
 | g {g} : OV ρ (.global g) (.pointer (some ⟨g, 0, none⟩))
 | f {f} : OV ρ (.func f) (.func (.func f) #[] #[])
theorem OV.eval {ρ : Env} {n : Nat} {a : Act} {x : Operand} {v : Value} (h : OV ρ x v) (ha : Ok ρ n a) : a.eval x = v := by
 cases h with
 | t h => exact ha.vals _ _ h
 | c => rfl
 | g => rfl
 | f => rfl
inductive OVs (ρ : Env) : List Operand → List Value → Prop
 | nil : OVs ρ [] []
 | cons {x v xs vs} (h : OV ρ x v) (hs : OVs ρ xs vs) : OVs ρ (x :: xs) (v :: vs)
theorem OVs.map {ρ : Env} {n : Nat} {a : Act} {xs : List Operand} {vs : List Value} (h : OVs ρ xs vs) (ha : Ok ρ n a) : xs.map a.eval = vs := by
 induction h with
 | nil => rfl
 | cons h _ ih => rw [List.map_cons, h.eval ha, ih]
section
variable (P : Program)
def Run (G : World) (ρ : Env) (n : Nat) (L : List HProp) (o : Oper) (v : Value) : Prop := ∀ w a, Sat G w L → Ok ρ n a → (execOp a.eval o).run P w = .ok (.value v) w
def RunS (G : World) (ρ : Env) (n : Nat) (L : List HProp) (o : Oper) (L' : List HProp) : Prop := ∀ w a, Sat G w L → Ok ρ n a → ∃ w', (execOp a.eval o).run P w = .ok .skip w' ∧ Sat G w' L'
def RunW (G : World) (ρ : Env) (n : Nat) (L : List HProp) (o : Oper) (K : Value → World → Prop) : Prop := ∀ w a, Sat G w L → Ok ρ n a → ∃ v w', (execOp a.eval o).run P w = .ok (.value v) w' ∧ K v w'
def RunC (G : World) (ρ : Env) (n : Nat) (L : List HProp) (o : Oper) (f : FuncId) (args : Array Value) : Prop := ∀ w a, Sat G w L → Ok ρ n a → (execOp a.eval o).run P w = .ok (.enter f args) w
def TL (Q : Exit → Act → World → Prop) (ops : Array Oper) (l : List Oper) (ρ : Env) (n : Nat) (G : World) (L : List HProp) : Prop := ∀ w a, Sat G w L → Ok ρ n a → wpList P ops Q l a w
def TW (Q : Exit → Act → World → Prop) (ops : Array Oper) (l : List Oper) (ρ : Env) (n : Nat) (w : World) : Prop := ∀ a, Ok ρ n a → wpList P ops Q l a w
def TS (Q : Exit → Act → World → Prop) (ops : Array Oper) (tl : List Oper) (l : List Oper) (ρ : Env) (n : Nat) (G : World) (L : List HProp) : Prop :=
 ∀ w a, Sat G w L → Ok ρ n a → wpStill P ops w (fun a' => wpList P ops Q tl a' w) l a
def CT (c : Code) (Q : Exit → Act → World → Prop) (ρ : Env) (n : Nat) (G : World) (L : List HProp) : Prop := ∀ w a, Sat G w L → Ok ρ n a → c.wp P Q a w
end
def EX (Q : Exit → Act → World → Prop) (e : Exit) (ρ : Env) (n : Nat) (G : World) (L : List HProp) : Prop := ∀ w a, Sat G w L → Ok ρ n a → Q e a w
section
variable {P : Program} {G : World} {ρ ρ' : Env} {n : Nat} {L L' : List HProp} {Q : Exit → Act → World → Prop} {ops : Array Oper} {rest : List Oper}
 {d : Nat} {op : Op} {ty : TypeId} {pos : String} {af : Array Edge} {v : Value}
theorem TL.val (hr : Run P G ρ n L ⟨some d, op, ty, pos, af, none⟩ v) (k : TL P Q ops rest ((d, v) :: ρ) n G L) (hc : chk d n ρ = true := by rfl) :
 TL P Q ops (⟨some d, op, ty, pos, af, none⟩ :: rest) ρ n G L := by
 intro w a hS ha
 refine wpList_plain rfl fun K hK => ?_
 unfold Oper.wp
 rw [hr w a hS ha, Oper.upon_value]
 exact hK _ _ (k w _ hS (ha.put hc))
theorem wanted_of {j g : Nat} {b want : Bool} {a : Act} (hj : (ops[j]?).bind (·.dst) = some g) (hb : (g, .bool b) ∈ ρ) (ha : Ok ρ n a) :
 Region.wanted ⟨some d, op, ty, pos, af, some (j, want)⟩ (yielded ops a.tmps) = (b == want) := by
 have hv := ha.vals _ _ hb
 have h1 : a.tmps[g]? = some (.bool b) := by
  rw [Array.getD_eq_getD_getElem?] at hv
  cases e : a.tmps[g]? with
  | none => rw [e] at hv; cases hv
  | some x => rw [e] at hv; exact congrArg some hv
 simp only [Region.wanted, yielded, hj, Option.bind_some, h1]
 cases b <;> cases want <;> rfl
theorem TL.gv {j g : Nat} {b : Bool} (hb : (g, .bool b) ∈ ρ) (hr : Run P G ρ n L ⟨some d, op, ty, pos, af, some (j, b)⟩ v) (k : TL P Q ops rest ((d, v) :: ρ) n G L) (hj : (ops[j]?).bind (·.dst) = some g := by rfl) (hc : chk d n ρ = true := by rfl) :
 TL P Q ops (⟨some d, op, ty, pos, af, some (j, b)⟩ :: rest) ρ n G L := by
 intro w a hS ha
 refine wpList_step fun K hK => ?_
 rw [wanted_of hj hb ha, beq_self_eq_true, if_pos rfl]
 unfold Oper.wp
 rw [hr w a hS ha, Oper.upon_value]
 exact hK _ _ (k w _ hS (ha.put hc))
theorem TL.gn {j g : Nat} {b want : Bool} (hb : (g, .bool b) ∈ ρ) (k : TL P Q ops rest ρ n G L) (hw : (b == want) = false := by rfl) (hj : (ops[j]?).bind (·.dst) = some g := by rfl) (hc : ρ.all (fun x => !(Nat.beq x.1 d)) = true := by rfl) :
 TL P Q ops (⟨some d, op, ty, pos, af, some (j, want)⟩ :: rest) ρ n G L := by
 intro w a hS ha
 refine wpList_step fun K hK => ?_
 rw [wanted_of hj hb ha, hw, if_neg (by simp)]
 exact hK _ _ (k w _ hS (ha.forget hc))
theorem TL.s (hr : RunS P G ρ n L ⟨none, op, ty, pos, af, none⟩ L') (k : TL P Q ops rest ρ n G L') : TL P Q ops (⟨none, op, ty, pos, af, none⟩ :: rest) ρ n G L := by
 intro w a hS ha
 refine wpList_plain rfl fun K hK => ?_
 unfold Oper.wp
 obtain ⟨w', e, hS'⟩ := hr w a hS ha
 rw [e, Oper.upon_skip]
 exact hK _ _ (k w' _ hS' ha)
theorem TL.w {K : Value → World → Prop} (hr : RunW P G ρ n L ⟨some d, op, ty, pos, af, none⟩ K) (k : ∀ v w, K v w → TW P Q ops rest ((d, v) :: ρ) n w) (hc : chk d n ρ = true := by rfl) :
 TL P Q ops (⟨some d, op, ty, pos, af, none⟩ :: rest) ρ n G L := by
 intro w a hS ha
 refine wpList_plain rfl fun K hK => ?_
 unfold Oper.wp
 obtain ⟨v, w', e, hk⟩ := hr w a hS ha
 rw [e, Oper.upon_value]
 exact hK _ _ (k v w' hk _ (ha.put hc))
theorem TW.at {w : World} (hS : Sat G w L) (k : TL P Q ops rest ρ n G L) : TW P Q ops rest ρ n w := fun a ha => k w a hS ha
def Ret (R : Value → World → Prop) : Ending → World → Prop
 | .returned v, w => R v w
 | _, _ => False
def CallsR (P : Program) (f : FuncId) (args : Array Value) (w : World) (R : Value → World → Prop) : Prop := Calls P f args w (Ret R)
theorem CallsR.mono {f : FuncId} {args : Array Value} {w : World} {R R' : Value → World → Prop} (h : CallsR P f args w R) (e : ∀ v w', R v w' → R' v w') : CallsR P f args w R' :=
 Calls.mono h fun x w' hx => by cases x <;> first | exact e _ _ hx | exact hx
theorem TL.call {f : FuncId} {args : Array Value} {R : Value → World → Prop} (hr : RunC P G ρ n L ⟨some d, op, ty, pos, af, none⟩ f args)
 (hc : ∀ w, Sat G w L → CallsR P f args w R) (k : ∀ v w, R v w → TW P Q ops rest ((d, v) :: ρ) n w) (hk : chk d n ρ = true := by rfl) :
 TL P Q ops (⟨some d, op, ty, pos, af, none⟩ :: rest) ρ n G L := by
 intro w a hS ha
 refine wpList_plain rfl fun K hK => ?_
 unfold Oper.wp
 rw [hr w a hS ha, Oper.upon_enter]
 refine Calls.mono (hc w hS) fun e w' he => ?_
 cases e with
 | returned v => exact hK _ _ (k v w' he _ (ha.put hk))
 | panicked _ => exact he.elim
 | outgrown => exact he.elim
theorem TL.gcall {j g : Nat} {b : Bool} {f : FuncId} {args : Array Value} {R : Value → World → Prop} (hb : (g, .bool b) ∈ ρ) (hr : RunC P G ρ n L ⟨some d, op, ty, pos, af, some (j, b)⟩ f args)
 (hc : ∀ w, Sat G w L → CallsR P f args w R) (k : ∀ v w, R v w → TW P Q ops rest ((d, v) :: ρ) n w) (hj : (ops[j]?).bind (·.dst) = some g := by rfl) (hk : chk d n ρ = true := by rfl) :
 TL P Q ops (⟨some d, op, ty, pos, af, some (j, b)⟩ :: rest) ρ n G L := by
 intro w a hS ha
 refine wpList_step fun K hK => ?_
 rw [wanted_of hj hb ha, beq_self_eq_true, if_pos rfl]
 unfold Oper.wp
 rw [hr w a hS ha, Oper.upon_enter]
 refine Calls.mono (hc w hS) fun e w' he => ?_
 cases e with
 | returned v => exact hK _ _ (k v w' he _ (ha.put hk))
 | panicked _ => exact he.elim
 | outgrown => exact he.elim
theorem TL.perm (p : L.Perm L') (k : TL P Q ops rest ρ n G L') : TL P Q ops rest ρ n G L := fun w a hS ha => k w a (hS.perm p) ha
theorem TL.sub (s : Sub ρ' ρ) (k : TL P Q ops rest ρ' n G L) : TL P Q ops rest ρ n G L := fun w a hS ha => k w a hS (ha.sub s)
theorem TL.rm {d : Nat} (s : Rm d ρ ρ') (k : TL P Q ops rest ρ' n G L) : TL P Q ops rest ρ n G L := TL.sub s.sub k
theorem TL.nil (k : EX Q .normal ρ n G L) : TL P Q ops [] ρ n G L := fun w a hS ha => k w a hS ha
theorem TW.nil {w : World} (k : ∀ a, Ok ρ n a → Q .normal a w) : TW P Q ops [] ρ n w := fun a ha => k a ha
theorem TS.val {tl : List Oper} (hr : Run P G ρ n L ⟨some d, op, ty, pos, af, none⟩ v) (k : TS P Q ops tl rest ((d, v) :: ρ) n G L) (hc : chk d n ρ = true := by rfl) :
 TS P Q ops tl (⟨some d, op, ty, pos, af, none⟩ :: rest) ρ n G L := by
 intro w a hS ha
 refine wpStill_step fun K hK => ?_
 simp only [Region.wanted, if_true]
 unfold Oper.still
 rw [hr w a hS ha, Oper.stillUpon_value]
 exact hK _ (k w _ hS (ha.put hc))
theorem TS.gv {tl : List Oper} {j g : Nat} {b : Bool} (hb : (g, .bool b) ∈ ρ) (hr : Run P G ρ n L ⟨some d, op, ty, pos, af, some (j, b)⟩ v) (k : TS P Q ops tl rest ((d, v) :: ρ) n G L) (hj : (ops[j]?).bind (·.dst) = some g := by rfl) (hc : chk d n ρ = true := by rfl) :
 TS P Q ops tl (⟨some d, op, ty, pos, af, some (j, b)⟩ :: rest) ρ n G L := by
 intro w a hS ha
 refine wpStill_step fun K hK => ?_
 rw [wanted_of hj hb ha, beq_self_eq_true, if_pos rfl]
 unfold Oper.still
 rw [hr w a hS ha, Oper.stillUpon_value]
 exact hK _ (k w _ hS (ha.put hc))
theorem TS.gn {tl : List Oper} {j g : Nat} {b want : Bool} (hb : (g, .bool b) ∈ ρ) (k : TS P Q ops tl rest ρ n G L) (hw : (b == want) = false := by rfl) (hj : (ops[j]?).bind (·.dst) = some g := by rfl) (hc : ρ.all (fun x => !(Nat.beq x.1 d)) = true := by rfl) :
 TS P Q ops tl (⟨some d, op, ty, pos, af, some (j, want)⟩ :: rest) ρ n G L := by
 intro w a hS ha
 refine wpStill_step fun K hK => ?_
 rw [wanted_of hj hb ha, hw, if_neg (by simp)]
 exact hK _ (k w _ hS (ha.forget hc))
theorem TS.nil {tl : List Oper} (k : TL P Q ops tl ρ n G L) : TS P Q ops tl [] ρ n G L := fun w a hS ha => k w a hS ha
theorem CT.region {id : Nat} {l : List Oper} (k : TL P Q l.toArray l ρ n G L) : CT P (.region id l.toArray false) Q ρ n G L :=
 fun w a hS ha => wp_region_lit (k w a hS ha)
theorem CT.draw {id : Nat} {l : List Oper} (m : Nat) (hm : P.follows .mixedOrders = true) (hB : Region.lexTailB .any l.toArray m = true)
 (k : TS P Q l.toArray (l.drop m) (l.take m) ρ n G L) : CT P (.region id l.toArray true) Q ρ n G L :=
 fun w a hS ha => wp_region_still_tail m hm hB (k _ a (hS.drew _) ha)
theorem CT.still {id : Nat} {l : List Oper} (hm : P.follows .mixedOrders = true) (hB : Region.lexB .any l.toArray = true)
 (k : TS P Q l.toArray [] l ρ n G L) : CT P (.region id l.toArray true) Q ρ n G L :=
 fun w a hS ha => wp_region_still_lit hm hB (k _ a (hS.drew _) ha)
theorem CT.seq {x y : Code} (k : CT P x (Exit.then (y.wp P Q) Q) ρ n G L) : CT P (.seq x y) Q ρ n G L := fun w a hS ha => wp_seq (k w a hS ha)
theorem CT.skip (k : EX Q .normal ρ n G L) : CT P .skip Q ρ n G L := fun w a hS ha => wp_skip (k w a hS ha)
theorem CT.exit {id : Nat} (k : EX Q (.exit id) ρ n G L) : CT P (.exit id) Q ρ n G L := fun w a hS ha => wp_exit (k w a hS ha)
theorem CT.goto {l : Nat} (k : EX Q (.goto l) ρ n G L) : CT P (.goto l) Q ρ n G L := fun w a hS ha => wp_goto (k w a hS ha)
theorem CT.ret (k : EX Q .ret ρ n G L) : CT P .ret Q ρ n G L := fun w a hS ha => wp_ret (k w a hS ha)
theorem CT.block {id : Nat} {c : Code} (k : CT P c (Exit.inBlock id Q) ρ n G L) : CT P (.block id c) Q ρ n G L := fun w a hS ha => wp_block (k w a hS ha)
theorem CT.iff {t : Nat} {b : Bool} {x y : Code} (hm : (t, .bool b) ∈ ρ) (k1 : b = true → CT P x Q ρ n G L) (k2 : b = false → CT P y Q ρ n G L) : CT P (.cond (.tmp t) x y) Q ρ n G L :=
 fun w a hS ha => wp_cond_split (ha.vals _ _ hm) (fun e => k1 e w a hS ha) (fun e => k2 e w a hS ha)
theorem CT.ifd {t : Nat} {p : Prop} [Decidable p] {x y : Code} (hm : (t, .bool (decide p)) ∈ ρ) (k1 : p → CT P x Q ρ n G L) (k2 : ¬ p → CT P y Q ρ n G L) : CT P (.cond (.tmp t) x y) Q ρ n G L :=
 CT.iff hm (fun e => k1 (of_decide_eq_true e)) (fun e => k2 (of_decide_eq_false e))
theorem CT.ift {t : Nat} {x y : Code} (hm : (t, .bool true) ∈ ρ) (k1 : CT P x Q ρ n G L) : CT P (.cond (.tmp t) x y) Q ρ n G L :=
 CT.iff hm (fun _ => k1) (fun e => by cases e)
theorem CT.iff_ {t : Nat} {x y : Code} (hm : (t, .bool false) ∈ ρ) (k1 : CT P y Q ρ n G L) : CT P (.cond (.tmp t) x y) Q ρ n G L :=
 CT.iff hm (fun e => by cases e) (fun _ => k1)
theorem CT.perm {c : Code} (p : L.Perm L') (k : CT P c Q ρ n G L') : CT P c Q ρ n G L := fun w a hS ha => k w a (hS.perm p) ha
theorem CT.sub {c : Code} (s : Sub ρ' ρ) (k : CT P c Q ρ' n G L) : CT P c Q ρ n G L := fun w a hS ha => k w a hS (ha.sub s)
theorem CT.ex {α : Type} {A : α → HProp} {c : Code} (k : ∀ x, CT P c Q ρ n G (A x :: L)) : CT P c Q ρ n G (hex A :: L) := fun w a hS ha => let ⟨x, hx⟩ := hS.ex; k x w a hx ha
theorem EX.seq {y : Code} (k : CT P y Q ρ n G L) : EX (Exit.then (y.wp P Q) Q) .normal ρ n G L := fun w a hS ha => k w a hS ha
theorem EX.then_ {e : Exit} {K : Act → World → Prop} (he : e ≠ .normal) (k : EX Q e ρ n G L) : EX (Exit.then K Q) e ρ n G L := fun w a hS ha => by
 have := k w a hS ha
 cases e <;> first | exact this | exact absurd rfl he
theorem EX.then_ret {K : Act → World → Prop} (k : EX Q .ret ρ n G L) : EX (Exit.then K Q) .ret ρ n G L := fun w a hS ha => k w a hS ha
theorem EX.then_exit {i : Nat} {K : Act → World → Prop} (k : EX Q (.exit i) ρ n G L) : EX (Exit.then K Q) (.exit i) ρ n G L := fun w a hS ha => k w a hS ha
theorem EX.then_goto {i : Nat} {K : Act → World → Prop} (k : EX Q (.goto i) ρ n G L) : EX (Exit.then K Q) (.goto i) ρ n G L := fun w a hS ha => k w a hS ha
theorem EX.out {i : Nat} (k : EX Q .normal ρ n G L) : EX (Exit.inBlock i Q) (.exit i) ρ n G L := fun w a hS ha => by simp only [Exit.inBlock, if_true]; exact k w a hS ha
theorem EX.past {i j : Nat} (k : EX Q (.exit j) ρ n G L) (h : Nat.beq j i = false := by rfl) : EX (Exit.inBlock i Q) (.exit j) ρ n G L := fun w a hS ha => by
 have hne : ¬ j = i := fun e => by subst e; rw [Nat.beq_refl] at h; cases h
 simp only [Exit.inBlock, if_neg hne]; exact k w a hS ha
theorem EX.bnormal {i : Nat} (k : EX Q .normal ρ n G L) : EX (Exit.inBlock i Q) .normal ρ n G L := fun w a hS ha => k w a hS ha
theorem EX.bret {i : Nat} (k : EX Q .ret ρ n G L) : EX (Exit.inBlock i Q) .ret ρ n G L := fun w a hS ha => k w a hS ha
theorem EX.bgoto {i j : Nat} (k : EX Q (.goto j) ρ n G L) : EX (Exit.inBlock i Q) (.goto j) ρ n G L := fun w a hS ha => k w a hS ha
theorem EX.sub {e : Exit} (s : Sub ρ' ρ) (k : EX Q e ρ' n G L) : EX Q e ρ n G L := fun w a hS ha => k w a hS (ha.sub s)
theorem EX.perm {e : Exit} (p : L.Perm L') (k : EX Q e ρ n G L') : EX Q e ρ n G L := fun w a hS ha => k w a (hS.perm p) ha
def Meet {X : Type} (ρi : X → Env) (Li : X → List HProp) (I : X → Prop) (n : Nat) (G : World) : Act → World → Prop := fun a w => ∃ x, I x ∧ Sat G w (Li x) ∧ Ok (ρi x) n a
theorem CT.cut {X : Type} (ρi : X → Env) (Li : X → List HProp) (I : X → Prop) {x y : Code} (k : CT P x (Exit.then (Meet ρi Li I n G) Q) ρ n G L) (k2 : ∀ z, I z → CT P y Q (ρi z) n G (Li z)) :
 CT P (.seq x y) Q ρ n G L := fun w a hS ha => wp_seq (wp_mono (k w a hS ha) fun e a' w' he => by
 cases e with
 | normal => obtain ⟨z, hz, hS', ha'⟩ := he; exact k2 z hz w' a' hS' ha'
 | _ => exact he)
theorem EX.meet {X : Type} {ρi : X → Env} {Li : X → List HProp} {I : X → Prop} (z : X) (hz : I z) (p : L.Perm (Li z)) (s : Sub (ρi z) ρ) : EX (Exit.then (Meet ρi Li I n G) Q) .normal ρ n G L :=
 fun _ _ hS ha => ⟨z, hz, hS.perm p, ha.sub s⟩
def Again {X : Type} (ρi : X → Env) (Li : X → List HProp) (I : X → Prop) (μ : X → Nat) (n : Nat) (G : World) (x : X) : Act → World → Prop :=
 fun a w => ∃ x', (I x' ∧ μ x' < μ x) ∧ Sat G w (Li x') ∧ Ok (ρi x') n a
theorem EX.again {X : Type} {ρi : X → Env} {Li : X → List HProp} {I : X → Prop} {μ : X → Nat} {x : X} (x' : X) (hz : I x') (hm : μ x' < μ x) (p : L.Perm (Li x')) (s : Sub (ρi x') ρ) :
 EX (Exit.then (Again ρi Li I μ n G x) Q) .normal ρ n G L := fun _ _ hS ha => ⟨x', ⟨hz, hm⟩, hS.perm p, ha.sub s⟩
theorem wp_loop_ghost {X : Type} {c : Code} {w : World} {a : Act} (I : X → Act → World → Prop) (μ : X → Nat) (x : X) (h₀ : I x a w)
 (round : ∀ x a w, I x a w → c.wp P (Exit.then (fun a' w' => ∃ x', I x' a' w' ∧ μ x' < μ x) Q) a w) : (Code.loop c).wp P Q a w := by
 intro b k cs
 have key : ∀ m x a w, μ x = m → I x a w →
  ∃ e a' w', Q e a' w' ∧ Arrives P (lone (b.at a (.code c :: .inLoop c :: k)) cs w) b k cs e a' w' := by
  intro m
  induction m using Nat.strongRecOn with
  | _ m ih =>
   intro x a w hn hI
   obtain ⟨e, a₁, w₁, hq, harr⟩ := round x a w hI b (.inLoop c :: k) cs
   cases e with
   | normal =>
    obtain ⟨x', hI₁, hlt⟩ := hq
    obtain ⟨e₂, a₂, w₂, hq₂, harr₂⟩ := ih (μ x') (hn ▸ hlt) x' a₁ w₁ rfl hI₁
    exact ⟨e₂, a₂, w₂, hq₂, .of_steps (Steps.trans harr (.one step_inLoop)) harr₂⟩
   | exit id => exact ⟨_, a₁, w₁, hq, .pass (x := .inLoop c) rfl (fun _ _ => .inl (by simp)) harr⟩
   | goto l => exact ⟨_, a₁, w₁, hq, .pass (x := .inLoop c) rfl (fun _ _ => .inl (by simp)) harr⟩
   | ret => exact ⟨_, a₁, w₁, hq, .pass (x := .inLoop c) rfl (fun _ _ => .inl (by simp)) harr⟩
   | panic ch => exact ⟨_, a₁, w₁, hq, .pass (x := .inLoop c) rfl (fun _ _ => .inl (by simp)) harr⟩
   | outgrown => exact ⟨_, a₁, w₁, hq, .pass (x := .inLoop c) rfl (fun _ _ => .inl (by simp)) harr⟩
 obtain ⟨e, a', w', hq, harr⟩ := key _ x a w rfl h₀
 exact ⟨e, a', w', hq, .of_steps (.one step_loop) harr⟩
theorem CT.loop {X : Type} (ρi : X → Env) (Li : X → List HProp) (I : X → Prop) (μ : X → Nat) (x : X) {c : Code} (hI : I x) (p : L.Perm (Li x)) (s : Sub (ρi x) ρ)
 (round : ∀ x, I x → CT P c (Exit.then (Again ρi Li I μ n G x) Q) (ρi x) n G (Li x)) : CT P (.loop c) Q ρ n G L :=
 fun w a hS ha => wp_loop_ghost (fun x a w => I x ∧ Sat G w (Li x) ∧ Ok (ρi x) n a) μ x ⟨hI, hS.perm p, ha.sub s⟩ fun x a w ⟨h1, h2, h3⟩ =>
  wp_mono (round x h1 w a h2 h3) fun e a' w' he => by
   cases e with
   | normal => obtain ⟨x', ⟨h4, h5⟩, h6, h7⟩ := he; exact ⟨x', ⟨h4, h6, h7⟩, h5⟩
   | _ => exact he
def Jumps (J : Nat → Act → World → Prop) (Q : Exit → Act → World → Prop) : Exit → Act → World → Prop
 | .goto l, a, w => J l a w
 | e, a, w => Q e a w
theorem wp_scope_ghost {X : Type} {c : Code} {w : World} {a : Act} (J : Nat → X → Act → World → Prop) (μ : Nat → X → Nat)
 (first : c.wp P (Jumps (fun l a w => ∃ x, J l x a w) Q) a w)
 (pass : ∀ l x a w, J l x a w → ∃ rest, findLabel c l = some rest ∧ rest.wp P (Jumps (fun l' a' w' => ∃ x', J l' x' a' w' ∧ μ l' x' < μ l x) Q) a w) : (Code.scope c).wp P Q a w := by
 intro b k cs
 have key : ∀ m l x a w, μ l x = m → J l x a w → ∃ rest, findLabel c l = some rest ∧ ∃ e a' w', Q e a' w' ∧ Arrives P (lone (b.at a (.code rest :: .inScope c :: k)) cs w) b k cs e a' w' := by
  intro m
  induction m using Nat.strongRecOn with
  | _ m ih =>
   intro l x a w hn hJ
   obtain ⟨rest, hf, hp⟩ := pass l x a w hJ
   obtain ⟨e, a₁, w₁, hq, harr⟩ := hp b (.inScope c :: k) cs
   refine ⟨rest, hf, ?_⟩
   cases e with
   | normal => exact ⟨.normal, a₁, w₁, hq, Steps.trans harr (.one step_inScope)⟩
   | exit id => exact ⟨.exit id, a₁, w₁, hq, fun k' hk => harr k' (by simp [exitTo, hk])⟩
   | goto l' =>
    obtain ⟨x', hJ', hlt⟩ := hq
    obtain ⟨rest', hf', e₂, a₂, w₂, hq₂, harr₂⟩ := ih _ (by omega) l' x' a₁ w₁ rfl hJ'
    have hg : gotoIn l' (.inScope c :: k) = some (.code rest' :: .inScope c :: k) := by simp [gotoIn, hf']
    exact ⟨e₂, a₂, w₂, hq₂, .of_steps (harr _ hg) harr₂⟩
   | ret => exact ⟨_, a₁, w₁, hq, harr⟩
   | panic ch => exact ⟨_, a₁, w₁, hq, harr⟩
   | outgrown => exact ⟨_, a₁, w₁, hq, harr⟩
 obtain ⟨e, a₁, w₁, hq, harr⟩ := first b (.inScope c :: k) cs
 cases e with
 | normal => exact ⟨.normal, a₁, w₁, hq, .head step_scope (Steps.trans harr (.one step_inScope))⟩
 | exit id => exact ⟨.exit id, a₁, w₁, hq, fun k' hk => .head step_scope (harr k' (by simp [exitTo, hk]))⟩
 | goto l' =>
  obtain ⟨x', hJ'⟩ := hq
  obtain ⟨rest', hf', e₂, a₂, w₂, hq₂, harr₂⟩ := key _ l' x' a₁ w₁ rfl hJ'
  have hg : gotoIn l' (.inScope c :: k) = some (.code rest' :: .inScope c :: k) := by simp [gotoIn, hf']
  exact ⟨e₂, a₂, w₂, hq₂, .of_steps (.head step_scope (harr _ hg)) harr₂⟩
 | ret => exact ⟨_, a₁, w₁, hq, .of_steps (.one step_scope) harr⟩
 | panic ch => exact ⟨_, a₁, w₁, hq, .of_steps (.one step_scope) harr⟩
 | outgrown => exact ⟨_, a₁, w₁, hq, .of_steps (.one step_scope) harr⟩
theorem CT.scope {c : Code} (k : CT P c (Exit.noGoto Q) ρ n G L) : CT P (.scope c) Q ρ n G L := fun w a hS ha => wp_scope_straight (k w a hS ha)
variable {fn : Func} {R : Value → World → Prop}
theorem EX.end_ {e : Exit} (he : e = .ret ∨ e = .normal) {v : Value} (hv : ∀ w a, Sat G w L → Ok ρ n a → (results fn a.tmps).run P w = .ok v w) (k : ∀ w, Sat G w L → R v w) : EX (bodyPost P fn (Ret R)) e ρ n G L := fun w a hS ha => by
 rcases he with rfl | rfl <;> exact ⟨ha.defers, v, hv w a hS ha, k w hS⟩
theorem res1 {t : Nat} (h : fn.results = #[.tmp t]) (hm : (t, v) ∈ ρ) : ∀ w a, Sat G w L → Ok ρ n a → (results fn a.tmps).run P w = .ok v w := fun w a _ ha => by
 rw [results_tmp h, ha.vals _ _ hm]
theorem res0 (h : fn.results = #[]) : ∀ w a, Sat G w L → Ok ρ n a → (results fn a.tmps).run P w = .ok (.tuple #[]) w := fun w a _ _ => results_none h _ _ _
theorem res2 {t u : Nat} {x : Value} (h : fn.results = #[.tmp t, .tmp u]) (hm : (t, v) ∈ ρ) (hx : (u, x) ∈ ρ) : ∀ w a, Sat G w L → Ok ρ n a → (results fn a.tmps).run P w = .ok (.tuple #[v, x]) w := fun w a _ ha => by
 rw [results_tmp2 h, ha.vals _ _ hm, ha.vals _ _ hx]
theorem res3 {t u s : Nat} {x y : Value} (h : fn.results = #[.tmp t, .tmp u, .tmp s]) (hm : (t, v) ∈ ρ) (hx : (u, x) ∈ ρ) (hy : (s, y) ∈ ρ) :
 ∀ w a, Sat G w L → Ok ρ n a → (results fn a.tmps).run P w = .ok (.tuple #[v, x, y]) w := fun w a _ ha => by
 have : (results fn a.tmps).run P w = .ok (.tuple #[a.tmps.getD t undef, a.tmps.getD u undef, a.tmps.getD s undef]) w := by simp [results, h]
 rw [this, ha.vals _ _ hm, ha.vals _ _ hx, ha.vals _ _ hy]
end
theorem Ok.args {args : Array Value} {n : Nat} (hn : args.size ≤ n) {ρ : Env} (h : ∀ t v, (t, v) ∈ ρ → args[t]? = some v) :
 Ok ρ n { tmps := args ++ Array.replicate (n - args.size) undef, defers := [] } := by
 refine ⟨by simp; omega, rfl, fun t v hm => ?_⟩
 have := h t v hm
 have hlt := (Array.getElem?_eq_some_iff.1 this).1
 rw [Array.getD_eq_getD_getElem?, Array.getElem?_append_left hlt, this]
 rfl
theorem calls_in {P : Program} {G w : World} {L : List HProp} {f : FuncId} {fn : Func} {c : Code} {n : Nat} {args : Array Value} {R : Value → World → Prop} (ρ : Env)
 (hf : P.funcs[f]? = some fn) (hb : fn.body = some c) (hn : fn.ntmps = n) (hS : Sat G w L) (h : ∀ t v, (t, v) ∈ ρ → args[t]? = some v) (k : CT P c (bodyPost P fn (Ret R)) ρ n G L)
 (hs : Nat.ble args.size n = true := by rfl) : CallsR P f args w R := by
 subst hn
 exact calls_of_wp hf hb (k w _ hS (Ok.args (Nat.le_of_ble_eq_true hs) h))
theorem args_nil {args : Array Value} : ∀ t v, (t, v) ∈ ([] : Env) → args[t]? = some v := fun _ _ h => by cases h
theorem args_cons {args : Array Value} {t : Nat} {v : Value} {ρ : Env} (h : args[t]? = some v) (hs : ∀ t v, (t, v) ∈ ρ → args[t]? = some v) : ∀ t' v', (t', v') ∈ ((t, v) :: ρ) → args[t']? = some v' := fun t' v' hm => by
 cases hm with
 | head => exact h
 | tail _ hm => exact hs _ _ hm
theorem args0 : ∀ t v, (t, v) ∈ ([] : Env) → (#[] : Array Value)[t]? = some v := args_nil
theorem args1 {x0 : Value} : ∀ t v, (t, v) ∈ ([(0, x0)] : Env) → (#[x0] : Array Value)[t]? = some v := (args_cons rfl args_nil)
theorem args2 {x0 x1 : Value} : ∀ t v, (t, v) ∈ ([(0, x0), (1, x1)] : Env) → (#[x0, x1] : Array Value)[t]? = some v := (args_cons rfl (args_cons rfl args_nil))
theorem args3 {x0 x1 x2 : Value} : ∀ t v, (t, v) ∈ ([(0, x0), (1, x1), (2, x2)] : Env) → (#[x0, x1, x2] : Array Value)[t]? = some v := (args_cons rfl (args_cons rfl (args_cons rfl args_nil)))
theorem args4 {x0 x1 x2 x3 : Value} : ∀ t v, (t, v) ∈ ([(0, x0), (1, x1), (2, x2), (3, x3)] : Env) → (#[x0, x1, x2, x3] : Array Value)[t]? = some v := (args_cons rfl (args_cons rfl (args_cons rfl (args_cons rfl args_nil))))
theorem args7 {x0 x1 x2 x3 x4 x5 x6 : Value} : ∀ t v, (t, v) ∈ ([(0, x0), (1, x1), (2, x2), (3, x3), (4, x4), (5, x5), (6, x6)] : Env) → (#[x0, x1, x2, x3, x4, x5, x6] : Array Value)[t]? = some v := (args_cons rfl (args_cons rfl (args_cons rfl (args_cons rfl (args_cons rfl (args_cons rfl (args_cons rfl args_nil)))))))
end Go.Eng
namespace Go.Eng
open Go
section
variable {P : Program} {G : World} {ρ : Env} {n : Nat} {L L' : List HProp} {d : Option Tmp} {ty : TypeId} {pos : String} {af : Array Edge} {g : Option (Nat × Bool)} {v : Value}
theorem r_move {x : Operand} (h : OV ρ x v) : Run P G ρ n L ⟨d, .move x, ty, pos, af, g⟩ v := fun w a _ ha => by
 simp only [execOp, h.eval ha, Sem.run_pure]
theorem r_asg {x : Operand} (h : OV ρ x v) : Run P G ρ n L ⟨d, .assign x, ty, pos, af, g⟩ v := fun w a _ ha => by
 simp only [execOp, h.eval ha, Sem.run_pure]
theorem r_pickt {c x y : Operand} (hc : OV ρ c (.bool true)) (h : OV ρ x v) : Run P G ρ n L ⟨d, .pick c x y, ty, pos, af, g⟩ v := fun w a _ ha => by
 simp [execOp, h.eval ha, hc.eval ha, asBool]
theorem r_pickf {c x y : Operand} (hc : OV ρ c (.bool false)) (h : OV ρ y v) : Run P G ρ n L ⟨d, .pick c x y, ty, pos, af, g⟩ v := fun w a _ ha => by
 simp [execOp, h.eval ha, hc.eval ha, asBool]
theorem r_nil {x : Operand} {p : Addr} (h : OV ρ x (.pointer (some p))) : Run P G ρ n L ⟨d, .nilCheck x, ty, pos, af, g⟩ (.pointer (some p)) := fun w a _ ha => by
 simp [execOp, h.eval ha]
def FO (P : Program) (s f k : Nat) : Prop := ∃ fields fld sz, P.underlying s = some (.struct fields) ∧ fields[f]? = some fld ∧ fld.offset = k ∧ (∀ w, (sizeOf fld.type).run P w = .ok sz w) ∧ sz ≠ 0
theorem run_underlying {t : TypeId} {x : TypeDesc} (h : P.underlying t = some x) (w : World) : (underlying t).run P w = .ok x w := by
 simp [underlying, program, Sem.run, h]
theorem add_at (b off k : Nat) : Addr.add ⟨b, off, none⟩ k = ⟨b, off + k, none⟩ := by
 unfold Addr.add
 split
 ·
  rename_i h; subst h; rfl
 rfl
theorem r_fa {s f k b off off' : Nat} {x : Operand} (hF : FO P s f k) (h : OV ρ x (.pointer (some ⟨b, off, none⟩))) (e : off + k = off' := by rfl) :
 Run P G ρ n L ⟨d, .fieldAddr s x f, ty, pos, af, g⟩ (.pointer (some ⟨b, off', none⟩)) := fun w a _ ha => by
 obtain ⟨fields, fld, sz, h1, h2, h3, h4, h5⟩ := hF
 subst e h3
 simp [execOp, h.eval ha, Instr.fieldAt, run_underlying h1, h2, Instr.sureAddr, fieldPlace, h4, h5, add_at]
theorem r_ldc {t b off : Nat} {x : Operand} (hA : ∀ w, (isAgg t).run P w = .ok false w) (h : OV ρ x (.pointer (some ⟨b, off, none⟩))) (hc : ∀ w, Sat G w L → w.cell? ⟨b, off, none⟩ = some v) :
 Run P G ρ n L ⟨d, .load t x, ty, pos, af, g⟩ v := fun w a hS ha => by
 simp [execOp, h.eval ha, Instr.loadAt, Instr.sureAddr, loadVar, hA, hc w hS]
theorem r_ld {t b off m : Nat} {F : Nat → Value} {x : Operand} (hA : ∀ w, (isAgg t).run P w = .ok false w) (hm : blk b m F ∈ L) (h : OV ρ x (.pointer (some ⟨b, off, none⟩))) (hi : off < m) (hv : F off = v) :
 Run P G ρ n L ⟨d, .load t x, ty, pos, af, g⟩ v := r_ldc hA h fun _ hS => hv ▸ hS.cell hm hi
theorem r_ld3 {t b off : Nat} {x : Operand} {c0 c1 c2 : Value} (hA : ∀ w, (isAgg t).run P w = .ok true w) (hs : ∀ w, (sizeOf t).run P w = .ok 3 w) (h : OV ρ x (.pointer (some ⟨b, off, none⟩)))
 (h0 : ∀ w, Sat G w L → w.cell? ⟨b, off, none⟩ = some c0) (h1 : ∀ w, Sat G w L → w.cell? ⟨b, off + 1, none⟩ = some c1) (h2 : ∀ w, Sat G w L → w.cell? ⟨b, off + 2, none⟩ = some c2) :
 Run P G ρ n L ⟨d, .load t x, ty, pos, af, g⟩ (.agg #[c0, c1, c2]) := fun w a hS ha => by
 simp [execOp, h.eval ha, Instr.loadAt, Instr.sureAddr, loadVar, hA, hs, loadCells, loadCellsFrom, add_at, h0 w hS, h1 w hS, h2 w hS]
def one : Value → Bool
 | .agg _ => false
 | .tuple _ => false
 | _ => true
theorem r_stc {t b off m : Nat} {F : Nat → Value} {x y : Operand} (hs : ∀ w, (sizeOf t).run P w = .ok 1 w) (hz : At (blk b m F) (blk b m (upd F off v)) L L') (h : OV ρ x (.pointer (some ⟨b, off, none⟩))) (hy : OV ρ y v) (hi : off < m)
 (hv : one v = true := by rfl) : RunS P G ρ n L ⟨d, .store t x y, ty, pos, af, g⟩ L' := fun w a hS ha => by
 have hc := hS.cell hz.mem hi
 have hf := hS.frozen hz.mem off
 refine ⟨w.setCell ⟨b, off, none⟩ v, ?_, hS.setCell hi hz⟩
 have hcs : v.cells = #[v] := by cases v <;> first | rfl | cases hv
 have e : (storeVar t ⟨b, off, none⟩ v).run P w = .ok () (w.setCell ⟨b, off, none⟩ v) := by
  simp only [storeVar, hcs, Sem.run_bind, hs, Result.andThen_ok]
  simp only [List.size_toArray, List.length_cons, List.length_nil, ne_eq, not_true_eq_false, if_false, storeCells, Nat.zero_add, add_at, Nat.add_zero, store]
  cases v <;> first | (simp [Sem.run, Sem.bind, bind, Pure.pure, hc, hf]; done) | cases hv
 simp only [execOp, h.eval ha, hy.eval ha, Instr.storeAt, Instr.sureAddr, Sem.run_bind, Sem.run_pure, Result.andThen_ok, e]
theorem r_add {t u : TypeId} {k : IntKind} {x y : Operand} {i j z : Int} (hx : OV ρ x (.int k i)) (hy : OV ρ y (.int k j)) (h : k.wrap (i + j) = z) : Run P G ρ n L ⟨d, .binOp .add t x y u, ty, pos, af, g⟩ (.int k z) := fun w a _ ha => by
 simp [execOp, hx.eval ha, hy.eval ha, eqGuard, binOp, Op.intArith, h]
theorem r_sub {t u : TypeId} {k : IntKind} {x y : Operand} {i j z : Int} (hx : OV ρ x (.int k i)) (hy : OV ρ y (.int k j)) (h : k.wrap (i - j) = z) : Run P G ρ n L ⟨d, .binOp .sub t x y u, ty, pos, af, g⟩ (.int k z) := fun w a _ ha => by
 simp [execOp, hx.eval ha, hy.eval ha, eqGuard, binOp, Op.intArith, h]
theorem r_mul {t u : TypeId} {k : IntKind} {x y : Operand} {i j z : Int} (hx : OV ρ x (.int k i)) (hy : OV ρ y (.int k j)) (h : k.wrap (i * j) = z) : Run P G ρ n L ⟨d, .binOp .mul t x y u, ty, pos, af, g⟩ (.int k z) := fun w a _ ha => by
 simp [execOp, hx.eval ha, hy.eval ha, eqGuard, binOp, Op.intArith, h]
theorem r_quo {t u : TypeId} {k : IntKind} {x y : Operand} {i j z : Int} (hx : OV ρ x (.int k i)) (hy : OV ρ y (.int k j)) (h0 : j ≠ 0) (h : k.wrap (i.tdiv j) = z) : Run P G ρ n L ⟨d, .binOp .quo t x y u, ty, pos, af, g⟩ (.int k z) := fun w a _ ha => by
 simp [execOp, hx.eval ha, hy.eval ha, eqGuard, binOp, Op.intDiv, h, h0]
theorem r_rem {t u : TypeId} {k : IntKind} {x y : Operand} {i j z : Int} (hx : OV ρ x (.int k i)) (hy : OV ρ y (.int k j)) (h0 : j ≠ 0) (h : i.tmod j = z) : Run P G ρ n L ⟨d, .binOp .rem t x y u, ty, pos, af, g⟩ (.int k z) := fun w a _ ha => by
 simp [execOp, hx.eval ha, hy.eval ha, eqGuard, binOp, Op.intDiv, h, h0]
theorem r_shl {t u : TypeId} {k kk : IntKind} {x y : Operand} {i j z : Int} (hx : OV ρ x (.int k i)) (hy : OV ρ y (.int kk j)) (h0 : 0 ≤ j) (h : k.wrap (i * 2 ^ min j.toNat k.bits) = z) : Run P G ρ n L ⟨d, .binOp .shl t x y u, ty, pos, af, g⟩ (.int k z) := fun w a _ ha => by
 simp [execOp, hx.eval ha, hy.eval ha, eqGuard, binOp, Op.shift, h, Int.not_lt.2 h0]
theorem r_shr {t u : TypeId} {k kk : IntKind} {x y : Operand} {i j z : Int} (hx : OV ρ x (.int k i)) (hy : OV ρ y (.int kk j)) (h0 : 0 ≤ j) (h : i.fdiv (2 ^ min j.toNat k.bits) = z) : Run P G ρ n L ⟨d, .binOp .shr t x y u, ty, pos, af, g⟩ (.int k z) := fun w a _ ha => by
 simp [execOp, hx.eval ha, hy.eval ha, eqGuard, binOp, Op.shift, h, Int.not_lt.2 h0]
theorem r_and {t u : TypeId} {k : IntKind} {x y : Operand} {i j z : Int} (hx : OV ρ x (.int k i)) (hy : OV ρ y (.int k j)) (h : k.wrap (BitVec.ofInt k.bits i &&& BitVec.ofInt k.bits j).toNat = z) : Run P G ρ n L ⟨d, .binOp .and t x y u, ty, pos, af, g⟩ (.int k z) := fun w a _ ha => by
 simp [execOp, hx.eval ha, hy.eval ha, eqGuard, binOp, Op.intBits, ← h]
theorem r_or {t u : TypeId} {k : IntKind} {x y : Operand} {i j z : Int} (hx : OV ρ x (.int k i)) (hy : OV ρ y (.int k j)) (h : k.wrap (BitVec.ofInt k.bits i ||| BitVec.ofInt k.bits j).toNat = z) : Run P G ρ n L ⟨d, .binOp .or t x y u, ty, pos, af, g⟩ (.int k z) := fun w a _ ha => by
 simp [execOp, hx.eval ha, hy.eval ha, eqGuard, binOp, Op.intBits, ← h]
theorem r_xor {t u : TypeId} {k : IntKind} {x y : Operand} {i j z : Int} (hx : OV ρ x (.int k i)) (hy : OV ρ y (.int k j)) (h : k.wrap (BitVec.ofInt k.bits i ^^^ BitVec.ofInt k.bits j).toNat = z) : Run P G ρ n L ⟨d, .binOp .xor t x y u, ty, pos, af, g⟩ (.int k z) := fun w a _ ha => by
 simp [execOp, hx.eval ha, hy.eval ha, eqGuard, binOp, Op.intBits, ← h]
theorem r_lss {t u : TypeId} {k : IntKind} {x y : Operand} {i j : Int} (hx : OV ρ x (.int k i)) (hy : OV ρ y (.int k j)) : Run P G ρ n L ⟨d, .binOp .lss t x y u, ty, pos, af, g⟩ (.bool (decide (i < j))) := fun w a _ ha => by
 simp [execOp, hx.eval ha, hy.eval ha, eqGuard, binOp, Op.intCmp]
theorem r_leq {t u : TypeId} {k : IntKind} {x y : Operand} {i j : Int} (hx : OV ρ x (.int k i)) (hy : OV ρ y (.int k j)) : Run P G ρ n L ⟨d, .binOp .leq t x y u, ty, pos, af, g⟩ (.bool (decide (i ≤ j))) := fun w a _ ha => by
 simp [execOp, hx.eval ha, hy.eval ha, eqGuard, binOp, Op.intCmp]
theorem r_gtr {t u : TypeId} {k : IntKind} {x y : Operand} {i j : Int} (hx : OV ρ x (.int k i)) (hy : OV ρ y (.int k j)) : Run P G ρ n L ⟨d, .binOp .gtr t x y u, ty, pos, af, g⟩ (.bool (decide (j < i))) := fun w a _ ha => by
 simp [execOp, hx.eval ha, hy.eval ha, eqGuard, binOp, Op.intCmp]
theorem r_geq {t u : TypeId} {k : IntKind} {x y : Operand} {i j : Int} (hx : OV ρ x (.int k i)) (hy : OV ρ y (.int k j)) : Run P G ρ n L ⟨d, .binOp .geq t x y u, ty, pos, af, g⟩ (.bool (decide (j ≤ i))) := fun w a _ ha => by
 simp [execOp, hx.eval ha, hy.eval ha, eqGuard, binOp, Op.intCmp]
theorem r_eql {t u : TypeId} {k : IntKind} {x y : Operand} {i j : Int} (hx : OV ρ x (.int k i)) (hy : OV ρ y (.int k j)) : Run P G ρ n L ⟨d, .binOp .eql t x y u, ty, pos, af, g⟩ (.bool (decide (i = j))) := fun w a _ ha => by
 simp [execOp, hx.eval ha, hy.eval ha, eqGuard, binOp, Op.intCmp, BEq.beq]
theorem r_neq {t u : TypeId} {k : IntKind} {x y : Operand} {i j : Int} (hx : OV ρ x (.int k i)) (hy : OV ρ y (.int k j)) : Run P G ρ n L ⟨d, .binOp .neq t x y u, ty, pos, af, g⟩ (.bool (decide (¬ i = j))) := fun w a _ ha => by
 simp [execOp, hx.eval ha, hy.eval ha, eqGuard, binOp, Op.intCmp, bne, BEq.beq]
theorem r_not {t : TypeId} {x : Operand} {b : Bool} (hx : OV ρ x (.bool b)) : Run P G ρ n L ⟨d, .unOp .not t x, ty, pos, af, g⟩ (.bool (!b)) := fun w a _ ha => by
 simp [execOp, hx.eval ha, Op.unary]
theorem r_conv {s t : TypeId} {k k' : IntKind} {x : Operand} {i z : Int} (hs : ∃ y, P.underlying s = some y) (ht : P.underlying t = some (.int k)) (hx : OV ρ x (.int k' i)) (h : k.wrap i = z) : Run P G ρ n L ⟨d, .convert s t x, ty, pos, af, g⟩ (.int k z) := fun w a _ ha => by
 obtain ⟨y, hs⟩ := hs
 simp [execOp, hx.eval ha, convert, run_underlying hs, run_underlying ht, Conv.intToInt, h]
theorem r_ext {x : Operand} {vs : Array Value} {i : Nat} (hx : OV ρ x (.tuple vs)) (h : vs[i]? = some v := by rfl) : Run P G ρ n L ⟨d, .extract x i, ty, pos, af, g⟩ v := fun w a _ ha => by
 simp [execOp, hx.eval ha, Instr.extract, h]
theorem r_mki {t : TypeId} {x : Operand} {y : TypeDesc} (ht : P.underlying t = some y) (hx : OV ρ x v) (hy : (match y with | .interface _ => false | _ => true) = true := by rfl) : Run P G ρ n L ⟨d, .makeInterface t x, ty, pos, af, g⟩ (.iface t v) := fun w a _ ha => by
 cases y <;> first | (simp [execOp, hx.eval ha, Instr.makeInterface, run_underlying ht]; done) | cases hy
theorem r_len {t : TypeId} {e : TypeId} {af2 : Array TypeId} {x : Operand} {p : Option Addr} {l c : Nat} (ht : P.underlying t = some (.slice e)) (hx : OV ρ x (.slice p l c)) (h : af2 = #[t] := by rfl) :
 Run P G ρ n L ⟨d, .call ⟨.builtin .len, #[x], af2⟩, ty, pos, af, g⟩ (.int .i64 (l : Int)) := fun w a _ ha => by
 subst h
 simp [execOp, hx.eval ha, resolve, invoke, builtin, Builtin.len_, run_underlying ht, goInt]
theorem r_cap {t : TypeId} {e : TypeId} {af2 : Array TypeId} {x : Operand} {p : Option Addr} {l c : Nat} (ht : P.underlying t = some (.slice e)) (hx : OV ρ x (.slice p l c)) (h : af2 = #[t] := by rfl) :
 Run P G ρ n L ⟨d, .call ⟨.builtin .cap, #[x], af2⟩, ty, pos, af, g⟩ (.int .i64 (c : Int)) := fun w a _ ha => by
 subst h
 simp [execOp, hx.eval ha, resolve, invoke, builtin, Builtin.cap_, run_underlying ht, goInt]
theorem r_min {t : Array TypeId} {k : IntKind} {x y : Operand} {i j : Int} (hx : OV ρ x (.int k i)) (hy : OV ρ y (.int k j)) :
 Run P G ρ n L ⟨d, .call ⟨.builtin .min, #[x, y], t⟩, ty, pos, af, g⟩ (.int k (if j < i then j else i)) := fun w a _ ha => by
 simp [execOp, hx.eval ha, hy.eval ha, resolve, invoke, builtin, Builtin.min_, Builtin.min2]
theorem r_max {t : Array TypeId} {k : IntKind} {x y : Operand} {i j : Int} (hx : OV ρ x (.int k i)) (hy : OV ρ y (.int k j)) :
 Run P G ρ n L ⟨d, .call ⟨.builtin .max, #[x, y], t⟩, ty, pos, af, g⟩ (.int k (if i < j then j else i)) := fun w a _ ha => by
 simp [execOp, hx.eval ha, hy.eval ha, resolve, invoke, builtin, Builtin.max_, Builtin.max2]
theorem r_ia {t e : TypeId} {x y : Operand} {k : IntKind} {b off len c s i off' : Nat} {j : Int} (ht : P.underlying t = some (.slice e)) (hs : ∀ w, (sizeOf e).run P w = .ok s w) (hx : OV ρ x (.slice (some ⟨b, off, none⟩) len c)) (hy : OV ρ y (.int k j))
 (hj : j = (i : Int)) (hi : i < len) (ho : off + i * s = off') : Run P G ρ n L ⟨d, .indexAddr t x y, ty, pos, af, g⟩ (.pointer (some ⟨b, off', none⟩)) := fun w a _ ha => by
 subst hj ho
 have h1 : (0 : Int) ≤ i ∧ (i : Int) < (len : Int) := ⟨by omega, by omega⟩
 simp [execOp, hx.eval ha, hy.eval ha, Instr.indexAt, asIntOf, run_underlying ht, h1, hs, add_at]
 exact fun h => absurd hi (by omega)
theorem r_iaa {t e : TypeId} {x y : Operand} {k : IntKind} {b off len s i off' : Nat} {j : Int} (ht : P.underlying t = some (.array len e)) (hs : ∀ w, (sizeOf e).run P w = .ok s w) (hx : OV ρ x (.pointer (some ⟨b, off, none⟩))) (hy : OV ρ y (.int k j))
 (hj : j = (i : Int)) (hi : i < len) (ho : off + i * s = off') : Run P G ρ n L ⟨d, .indexAddr t x y, ty, pos, af, g⟩ (.pointer (some ⟨b, off', none⟩)) := fun w a _ ha => by
 subst hj ho
 have h1 : (0 : Int) ≤ i ∧ (i : Int) < (len : Int) := ⟨by omega, by omega⟩
 simp [execOp, hx.eval ha, hy.eval ha, Instr.indexAt, asIntOf, run_underlying ht, h1, hs, add_at, Instr.sureAddr]
 exact fun h => absurd hi (by omega)
theorem r_idx {t : TypeId} {x y : Operand} {k : IntKind} {s : ByteArray} {i : Nat} {j : Int} {c : UInt8} (ht : P.underlying t = some .string) (hx : OV ρ x (.string s)) (hy : OV ρ y (.int k j)) (hj : j = (i : Int)) (hc : s[i]? = some c) :
 Run P G ρ n L ⟨d, .index t x y, ty, pos, af, g⟩ (.int .u8 (c.toNat : Int)) := fun w a _ ha => by
 subst hj
 simp [execOp, hx.eval ha, hy.eval ha, Instr.index, asIntOf, run_underlying ht, hc]
end
end Go.Eng
namespace Go.Eng
open Go
section
variable {P : Program} {Q : Exit → Act → World → Prop} {ops : Array Oper} {rest : List Oper} {ρ : Env} {n : Nat} {G : World} {L : List HProp}
theorem TL.q {id : Nat} {l : List Oper} {z : Code} (k : TL P (Exit.then (z.wp P Q) Q) l.toArray l ρ n G L) : TL P (Exit.then ((Code.seq (.region id l.toArray false) z).wp P Q) Q) ops [] ρ n G L := TL.nil (EX.seq (CT.seq (CT.region k)))
theorem EX.q {id : Nat} {l : List Oper} {z : Code} (k : TL P (Exit.then (z.wp P Q) Q) l.toArray l ρ n G L) : EX (Exit.then ((Code.seq (.region id l.toArray false) z).wp P Q) Q) .normal ρ n G L := EX.seq (CT.seq (CT.region k))
theorem CT.q {id : Nat} {l : List Oper} {z : Code} (k : TL P (Exit.then (z.wp P Q) Q) l.toArray l ρ n G L) : CT P (.seq (.region id l.toArray false) z) Q ρ n G L := CT.seq (CT.region k)
theorem TL.e {z : Code} (k : CT P z Q ρ n G L) : TL P (Exit.then (z.wp P Q) Q) ops [] ρ n G L := TL.nil (EX.seq k)
theorem TL.m {d t : Nat} {v : Value} {ty : TypeId} {pos : String} {af : Array Edge} (h : (t, v) ∈ ρ) (k : TL P Q ops rest ((d, v) :: ρ) n G L) (hc : chk d n ρ = true := by rfl) : TL P Q ops (⟨some d, .move (.tmp t), ty, pos, af, none⟩ :: rest) ρ n G L := TL.val (r_move (.t h)) k hc
theorem TL.a {d t : Nat} {v : Value} {ty : TypeId} {pos : String} {af : Array Edge} (h : (t, v) ∈ ρ) (k : TL P Q ops rest ((d, v) :: ρ) n G L) (hc : chk d n ρ = true := by rfl) : TL P Q ops (⟨some d, .assign (.tmp t), ty, pos, af, none⟩ :: rest) ρ n G L := TL.val (r_asg (.t h)) k hc
theorem TL.c {d t : Nat} {p : Addr} {ty : TypeId} {pos : String} {af : Array Edge} (h : (t, .pointer (some p)) ∈ ρ) (k : TL P Q ops rest ((d, .pointer (some p)) :: ρ) n G L) (hc : chk d n ρ = true := by rfl) : TL P Q ops (⟨some d, .nilCheck (.tmp t), ty, pos, af, none⟩ :: rest) ρ n G L := TL.val (r_nil (.t h)) k hc
theorem TL.f {d t s f k b off : Nat} {ty : TypeId} {pos : String} {af : Array Edge} (off' : Nat) (hF : FO P s f k) (h : (t, .pointer (some ⟨b, off, none⟩)) ∈ ρ) (K : TL P Q ops rest ((d, .pointer (some ⟨b, off', none⟩)) :: ρ) n G L) (e : off + k = off' := by rfl) (hc : chk d n ρ = true := by rfl) : TL P Q ops (⟨some d, .fieldAddr s (.tmp t) f, ty, pos, af, none⟩ :: rest) ρ n G L := TL.val (r_fa hF (.t h) e) K hc
theorem CT.z {Q : Exit → Act → World → Prop} {x : Nat × Value} (k : EX Q .normal ρ n G L) : CT P .skip Q (x :: ρ) n G L := CT.sub (.tl .refl) (CT.skip k)
theorem CT.y {id : Nat} {l : List Oper} {z : Code} {x : Nat × Value} (k : TL P (Exit.then (z.wp P Q) Q) l.toArray l ρ n G L) : CT P (.seq (.region id l.toArray false) z) Q (x :: ρ) n G L := CT.sub (.tl .refl) (CT.seq (CT.region k))
theorem TL.b {z : Code} {ρ' : Env} (s : Sub ρ' ρ) (k : CT P z Q ρ' n G L) : TL P (Exit.then (z.wp P Q) Q) ops [] ρ n G L := TL.sub s (TL.nil (EX.seq k))
theorem TL.x {ρ' : Env} (s : Sub ρ' ρ) (k : EX Q .normal ρ' n G L) : TL P Q ops [] ρ n G L := TL.sub s (TL.nil k)
theorem TL.r {id : Nat} {l : List Oper} {z : Code} {ρ' : Env} (s : Sub ρ' ρ) (k : TL P (Exit.then (z.wp P Q) Q) l.toArray l ρ' n G L) : TL P (Exit.then ((Code.seq (.region id l.toArray false) z).wp P Q) Q) ops [] ρ n G L := TL.sub s (TL.nil (EX.seq (CT.seq (CT.region k))))
theorem TS.m {tl : List Oper} {d t : Nat} {v : Value} {ty : TypeId} {pos : String} {af : Array Edge} (h : (t, v) ∈ ρ) (k : TS P Q ops tl rest ((d, v) :: ρ) n G L) (hc : chk d n ρ = true := by rfl) : TS P Q ops tl (⟨some d, .move (.tmp t), ty, pos, af, none⟩ :: rest) ρ n G L := TS.val (r_move (.t h)) k hc
theorem TS.c {tl : List Oper} {d t : Nat} {p : Addr} {ty : TypeId} {pos : String} {af : Array Edge} (h : (t, .pointer (some p)) ∈ ρ) (k : TS P Q ops tl rest ((d, .pointer (some p)) :: ρ) n G L) (hc : chk d n ρ = true := by rfl) : TS P Q ops tl (⟨some d, .nilCheck (.tmp t), ty, pos, af, none⟩ :: rest) ρ n G L := TS.val (r_nil (.t h)) k hc
theorem TS.f {tl : List Oper} {d t s f k b off : Nat} {ty : TypeId} {pos : String} {af : Array Edge} (off' : Nat) (hF : FO P s f k) (h : (t, .pointer (some ⟨b, off, none⟩)) ∈ ρ) (K : TS P Q ops tl rest ((d, .pointer (some ⟨b, off', none⟩)) :: ρ) n G L) (e : off + k = off' := by rfl) (hc : chk d n ρ = true := by rfl) : TS P Q ops tl (⟨some d, .fieldAddr s (.tmp t) f, ty, pos, af, none⟩ :: rest) ρ n G L := TS.val (r_fa hF (.t h) e) K hc
theorem T0 {t : Nat} {v : Value} : OV ((t, v) :: ρ) (.tmp t) v := .t m0
theorem T1 {t : Nat} {v : Value} {x0 : Nat × Value} : OV (x0 :: (t, v) :: ρ) (.tmp t) v := .t m1
theorem T2 {t : Nat} {v : Value} {x0 x1 : Nat × Value} : OV (x0 :: x1 :: (t, v) :: ρ) (.tmp t) v := .t m2
theorem T3 {t : Nat} {v : Value} {x0 x1 x2 : Nat × Value} : OV (x0 :: x1 :: x2 :: (t, v) :: ρ) (.tmp t) v := .t m3
theorem T4 {t : Nat} {v : Value} {x0 x1 x2 x3 : Nat × Value} : OV (x0 :: x1 :: x2 :: x3 :: (t, v) :: ρ) (.tmp t) v := .t m4
theorem T5 {t : Nat} {v : Value} {x0 x1 x2 x3 x4 : Nat × Value} : OV (x0 :: x1 :: x2 :: x3 :: x4 :: (t, v) :: ρ) (.tmp t) v := .t m5
theorem T6 {t : Nat} {v : Value} {x0 x1 x2 x3 x4 x5 : Nat × Value} : OV (x0 :: x1 :: x2 :: x3 :: x4 :: x5 :: (t, v) :: ρ) (.tmp t) v := .t m6
theorem T7 {t : Nat} {v : Value} {x0 x1 x2 x3 x4 x5 x6 : Nat × Value} : OV (x0 :: x1 :: x2 :: x3 :: x4 :: x5 :: x6 :: (t, v) :: ρ) (.tmp t) v := .t m7
theorem T8 {t : Nat} {v : Value} {x0 x1 x2 x3 x4 x5 x6 x7 : Nat × Value} : OV (x0 :: x1 :: x2 :: x3 :: x4 :: x5 :: x6 :: x7 :: (t, v) :: ρ) (.tmp t) v := .t m8
theorem T9 {t : Nat} {v : Value} {x0 x1 x2 x3 x4 x5 x6 x7 x8 : Nat × Value} : OV (x0 :: x1 :: x2 :: x3 :: x4 :: x5 :: x6 :: x7 :: x8 :: (t, v) :: ρ) (.tmp t) v := .t m9
theorem T10 {t : Nat} {v : Value} {x0 x1 x2 x3 x4 x5 x6 x7 x8 x9 : Nat × Value} : OV (x0 :: x1 :: x2 :: x3 :: x4 :: x5 :: x6 :: x7 :: x8 :: x9 :: (t, v) :: ρ) (.tmp t) v := .t m10
theorem T11 {t : Nat} {v : Value} {x0 x1 x2 x3 x4 x5 x6 x7 x8 x9 x10 : Nat × Value} : OV (x0 :: x1 :: x2 :: x3 :: x4 :: x5 :: x6 :: x7 :: x8 :: x9 :: x10 :: (t, v) :: ρ) (.tmp t) v := .t m11
theorem T12 {t : Nat} {v : Value} {x0 x1 x2 x3 x4 x5 x6 x7 x8 x9 x10 x11 : Nat × Value} : OV (x0 :: x1 :: x2 :: x3 :: x4 :: x5 :: x6 :: x7 :: x8 :: x9 :: x10 :: x11 :: (t, v) :: ρ) (.tmp t) v := .t m12
theorem T13 {t : Nat} {v : Value} {x0 x1 x2 x3 x4 x5 x6 x7 x8 x9 x10 x11 x12 : Nat × Value} : OV (x0 :: x1 :: x2 :: x3 :: x4 :: x5 :: x6 :: x7 :: x8 :: x9 :: x10 :: x11 :: x12 :: (t, v) :: ρ) (.tmp t) v := .t m13
theorem T14 {t : Nat} {v : Value} {x0 x1 x2 x3 x4 x5 x6 x7 x8 x9 x10 x11 x12 x13 : Nat × Value} : OV (x0 :: x1 :: x2 :: x3 :: x4 :: x5 :: x6 :: x7 :: x8 :: x9 :: x10 :: x11 :: x12 :: x13 :: (t, v) :: ρ) (.tmp t) v := .t m14
theorem T15 {t : Nat} {v : Value} {x0 x1 x2 x3 x4 x5 x6 x7 x8 x9 x10 x11 x12 x13 x14 : Nat × Value} : OV (x0 :: x1 :: x2 :: x3 :: x4 :: x5 :: x6 :: x7 :: x8 :: x9 :: x10 :: x11 :: x12 :: x13 :: x14 :: (t, v) :: ρ) (.tmp t) v := .t m15
theorem T16 {t : Nat} {v : Value} {x0 x1 x2 x3 x4 x5 x6 x7 x8 x9 x10 x11 x12 x13 x14 x15 : Nat × Value} : OV (x0 :: x1 :: x2 :: x3 :: x4 :: x5 :: x6 :: x7 :: x8 :: x9 :: x10 :: x11 :: x12 :: x13 :: x14 :: x15 :: (t, v) :: ρ) (.tmp t) v := .t m16
theorem T17 {t : Nat} {v : Value} {x0 x1 x2 x3 x4 x5 x6 x7 x8 x9 x10 x11 x12 x13 x14 x15 x16 : Nat × Value} : OV (x0 :: x1 :: x2 :: x3 :: x4 :: x5 :: x6 :: x7 :: x8 :: x9 :: x10 :: x11 :: x12 :: x13 :: x14 :: x15 :: x16 :: (t, v) :: ρ) (.tmp t) v := .t m17
theorem T18 {t : Nat} {v : Value} {x0 x1 x2 x3 x4 x5 x6 x7 x8 x9 x10 x11 x12 x13 x14 x15 x16 x17 : Nat × Value} : OV (x0 :: x1 :: x2 :: x3 :: x4 :: x5 :: x6 :: x7 :: x8 :: x9 :: x10 :: x11 :: x12 :: x13 :: x14 :: x15 :: x16 :: x17 :: (t, v) :: ρ) (.tmp t) v := .t m18
theorem T19 {t : Nat} {v : Value} {x0 x1 x2 x3 x4 x5 x6 x7 x8 x9 x10 x11 x12 x13 x14 x15 x16 x17 x18 : Nat × Value} : OV (x0 :: x1 :: x2 :: x3 :: x4 :: x5 :: x6 :: x7 :: x8 :: x9 :: x10 :: x11 :: x12 :: x13 :: x14 :: x15 :: x16 :: x17 :: x18 :: (t, v) :: ρ) (.tmp t) v := .t m19
theorem T21 {t : Nat} {v : Value} {x0 x1 x2 x3 x4 x5 x6 x7 x8 x9 x10 x11 x12 x13 x14 x15 x16 x17 x18 x19 x20 : Nat × Value} : OV (x0 :: x1 :: x2 :: x3 :: x4 :: x5 :: x6 :: x7 :: x8 :: x9 :: x10 :: x11 :: x12 :: x13 :: x14 :: x15 :: x16 :: x17 :: x18 :: x19 :: x20 :: (t, v) :: ρ) (.tmp t) v := .t m21
theorem T23 {t : Nat} {v : Value} {x0 x1 x2 x3 x4 x5 x6 x7 x8 x9 x10 x11 x12 x13 x14 x15 x16 x17 x18 x19 x20 x21 x22 : Nat × Value} : OV (x0 :: x1 :: x2 :: x3 :: x4 :: x5 :: x6 :: x7 :: x8 :: x9 :: x10 :: x11 :: x12 :: x13 :: x14 :: x15 :: x16 :: x17 :: x18 :: x19 :: x20 :: x21 :: x22 :: (t, v) :: ρ) (.tmp t) v := .t m23
theorem T24 {t : Nat} {v : Value} {x0 x1 x2 x3 x4 x5 x6 x7 x8 x9 x10 x11 x12 x13 x14 x15 x16 x17 x18 x19 x20 x21 x22 x23 : Nat × Value} : OV (x0 :: x1 :: x2 :: x3 :: x4 :: x5 :: x6 :: x7 :: x8 :: x9 :: x10 :: x11 :: x12 :: x13 :: x14 :: x15 :: x16 :: x17 :: x18 :: x19 :: x20 :: x21 :: x22 :: x23 :: (t, v) :: ρ) (.tmp t) v := .t m24
theorem Sub.sl {ρ' : Env} (a k : Nat) (h : (ρ.drop a).take k = ρ') : Sub ρ' ρ := fun x hx => List.mem_of_mem_drop (List.mem_of_mem_take (h ▸ hx))
theorem Sub.u1 {x0 : Nat × Value} : Sub ρ (x0 :: ρ) := .tl .refl
theorem Sub.u2 {x0 x1 : Nat × Value} : Sub ρ (x0 :: x1 :: ρ) := .tl .u1
theorem Sub.u3 {x0 x1 x2 : Nat × Value} : Sub ρ (x0 :: x1 :: x2 :: ρ) := .tl .u2
theorem Sub.u4 {x0 x1 x2 x3 : Nat × Value} : Sub ρ (x0 :: x1 :: x2 :: x3 :: ρ) := .tl .u3
theorem Sub.u5 {x0 x1 x2 x3 x4 : Nat × Value} : Sub ρ (x0 :: x1 :: x2 :: x3 :: x4 :: ρ) := .tl .u4
theorem Sub.u6 {x0 x1 x2 x3 x4 x5 : Nat × Value} : Sub ρ (x0 :: x1 :: x2 :: x3 :: x4 :: x5 :: ρ) := .tl .u5
theorem Sub.u7 {x0 x1 x2 x3 x4 x5 x6 : Nat × Value} : Sub ρ (x0 :: x1 :: x2 :: x3 :: x4 :: x5 :: x6 :: ρ) := .tl .u6
theorem Sub.u8 {x0 x1 x2 x3 x4 x5 x6 x7 : Nat × Value} : Sub ρ (x0 :: x1 :: x2 :: x3 :: x4 :: x5 :: x6 :: x7 :: ρ) := .tl .u7
theorem Sub.u9 {x0 x1 x2 x3 x4 x5 x6 x7 x8 : Nat × Value} : Sub ρ (x0 :: x1 :: x2 :: x3 :: x4 :: x5 :: x6 :: x7 :: x8 :: ρ) := .tl .u8
theorem Sub.u10 {x0 x1 x2 x3 x4 x5 x6 x7 x8 x9 : Nat × Value} : Sub ρ (x0 :: x1 :: x2 :: x3 :: x4 :: x5 :: x6 :: x7 :: x8 :: x9 :: ρ) := .tl .u9
theorem Sub.u11 {x0 x1 x2 x3 x4 x5 x6 x7 x8 x9 x10 : Nat × Value} : Sub ρ (x0 :: x1 :: x2 :: x3 :: x4 :: x5 :: x6 :: x7 :: x8 :: x9 :: x10 :: ρ) := .tl .u10
theorem Sub.u12 {x0 x1 x2 x3 x4 x5 x6 x7 x8 x9 x10 x11 : Nat × Value} : Sub ρ (x0 :: x1 :: x2 :: x3 :: x4 :: x5 :: x6 :: x7 :: x8 :: x9 :: x10 :: x11 :: ρ) := .tl .u11
theorem Sub.u13 {x0 x1 x2 x3 x4 x5 x6 x7 x8 x9 x10 x11 x12 : Nat × Value} : Sub ρ (x0 :: x1 :: x2 :: x3 :: x4 :: x5 :: x6 :: x7 :: x8 :: x9 :: x10 :: x11 :: x12 :: ρ) := .tl .u12
theorem Sub.u14 {x0 x1 x2 x3 x4 x5 x6 x7 x8 x9 x10 x11 x12 x13 : Nat × Value} : Sub ρ (x0 :: x1 :: x2 :: x3 :: x4 :: x5 :: x6 :: x7 :: x8 :: x9 :: x10 :: x11 :: x12 :: x13 :: ρ) := .tl .u13
theorem Sub.u15 {x0 x1 x2 x3 x4 x5 x6 x7 x8 x9 x10 x11 x12 x13 x14 : Nat × Value} : Sub ρ (x0 :: x1 :: x2 :: x3 :: x4 :: x5 :: x6 :: x7 :: x8 :: x9 :: x10 :: x11 :: x12 :: x13 :: x14 :: ρ) := .tl .u14
theorem Sub.u16 {x0 x1 x2 x3 x4 x5 x6 x7 x8 x9 x10 x11 x12 x13 x14 x15 : Nat × Value} : Sub ρ (x0 :: x1 :: x2 :: x3 :: x4 :: x5 :: x6 :: x7 :: x8 :: x9 :: x10 :: x11 :: x12 :: x13 :: x14 :: x15 :: ρ) := .tl .u15
theorem Sub.u17 {x0 x1 x2 x3 x4 x5 x6 x7 x8 x9 x10 x11 x12 x13 x14 x15 x16 : Nat × Value} : Sub ρ (x0 :: x1 :: x2 :: x3 :: x4 :: x5 :: x6 :: x7 :: x8 :: x9 :: x10 :: x11 :: x12 :: x13 :: x14 :: x15 :: x16 :: ρ) := .tl .u16
theorem Sub.u18 {x0 x1 x2 x3 x4 x5 x6 x7 x8 x9 x10 x11 x12 x13 x14 x15 x16 x17 : Nat × Value} : Sub ρ (x0 :: x1 :: x2 :: x3 :: x4 :: x5 :: x6 :: x7 :: x8 :: x9 :: x10 :: x11 :: x12 :: x13 :: x14 :: x15 :: x16 :: x17 :: ρ) := .tl .u17
theorem Sub.u19 {x0 x1 x2 x3 x4 x5 x6 x7 x8 x9 x10 x11 x12 x13 x14 x15 x16 x17 x18 : Nat × Value} : Sub ρ (x0 :: x1 :: x2 :: x3 :: x4 :: x5 :: x6 :: x7 :: x8 :: x9 :: x10 :: x11 :: x12 :: x13 :: x14 :: x15 :: x16 :: x17 :: x18 :: ρ) := .tl .u18
theorem Sub.u20 {x0 x1 x2 x3 x4 x5 x6 x7 x8 x9 x10 x11 x12 x13 x14 x15 x16 x17 x18 x19 : Nat × Value} : Sub ρ (x0 :: x1 :: x2 :: x3 :: x4 :: x5 :: x6 :: x7 :: x8 :: x9 :: x10 :: x11 :: x12 :: x13 :: x14 :: x15 :: x16 :: x17 :: x18 :: x19 :: ρ) := .tl .u19
theorem Sub.u21 {x0 x1 x2 x3 x4 x5 x6 x7 x8 x9 x10 x11 x12 x13 x14 x15 x16 x17 x18 x19 x20 : Nat × Value} : Sub ρ (x0 :: x1 :: x2 :: x3 :: x4 :: x5 :: x6 :: x7 :: x8 :: x9 :: x10 :: x11 :: x12 :: x13 :: x14 :: x15 :: x16 :: x17 :: x18 :: x19 :: x20 :: ρ) := .tl .u20
theorem Sub.u22 {x0 x1 x2 x3 x4 x5 x6 x7 x8 x9 x10 x11 x12 x13 x14 x15 x16 x17 x18 x19 x20 x21 : Nat × Value} : Sub ρ (x0 :: x1 :: x2 :: x3 :: x4 :: x5 :: x6 :: x7 :: x8 :: x9 :: x10 :: x11 :: x12 :: x13 :: x14 :: x15 :: x16 :: x17 :: x18 :: x19 :: x20 :: x21 :: ρ) := .tl .u21
theorem Sub.u23 {x0 x1 x2 x3 x4 x5 x6 x7 x8 x9 x10 x11 x12 x13 x14 x15 x16 x17 x18 x19 x20 x21 x22 : Nat × Value} : Sub ρ (x0 :: x1 :: x2 :: x3 :: x4 :: x5 :: x6 :: x7 :: x8 :: x9 :: x10 :: x11 :: x12 :: x13 :: x14 :: x15 :: x16 :: x17 :: x18 :: x19 :: x20 :: x21 :: x22 :: ρ) := .tl .u22
theorem Sub.u24 {x0 x1 x2 x3 x4 x5 x6 x7 x8 x9 x10 x11 x12 x13 x14 x15 x16 x17 x18 x19 x20 x21 x22 x23 : Nat × Value} : Sub ρ (x0 :: x1 :: x2 :: x3 :: x4 :: x5 :: x6 :: x7 :: x8 :: x9 :: x10 :: x11 :: x12 :: x13 :: x14 :: x15 :: x16 :: x17 :: x18 :: x19 :: x20 :: x21 :: x22 :: x23 :: ρ) := .tl .u23
theorem Rm.h1 {d : Nat} {v : Value} {x0 : Nat × Value} : Rm d (x0 :: (d, v) :: ρ) (x0 :: ρ) := .there .here
theorem Rm.h2 {d : Nat} {v : Value} {x0 x1 : Nat × Value} : Rm d (x0 :: x1 :: (d, v) :: ρ) (x0 :: x1 :: ρ) := .there .h1
theorem Rm.h3 {d : Nat} {v : Value} {x0 x1 x2 : Nat × Value} : Rm d (x0 :: x1 :: x2 :: (d, v) :: ρ) (x0 :: x1 :: x2 :: ρ) := .there .h2
theorem Rm.h4 {d : Nat} {v : Value} {x0 x1 x2 x3 : Nat × Value} : Rm d (x0 :: x1 :: x2 :: x3 :: (d, v) :: ρ) (x0 :: x1 :: x2 :: x3 :: ρ) := .there .h3
theorem Rm.h5 {d : Nat} {v : Value} {x0 x1 x2 x3 x4 : Nat × Value} : Rm d (x0 :: x1 :: x2 :: x3 :: x4 :: (d, v) :: ρ) (x0 :: x1 :: x2 :: x3 :: x4 :: ρ) := .there .h4
theorem Rm.h6 {d : Nat} {v : Value} {x0 x1 x2 x3 x4 x5 : Nat × Value} : Rm d (x0 :: x1 :: x2 :: x3 :: x4 :: x5 :: (d, v) :: ρ) (x0 :: x1 :: x2 :: x3 :: x4 :: x5 :: ρ) := .there .h5
theorem Rm.h7 {d : Nat} {v : Value} {x0 x1 x2 x3 x4 x5 x6 : Nat × Value} : Rm d (x0 :: x1 :: x2 :: x3 :: x4 :: x5 :: x6 :: (d, v) :: ρ) (x0 :: x1 :: x2 :: x3 :: x4 :: x5 :: x6 :: ρ) := .there .h6
theorem Rm.h8 {d : Nat} {v : Value} {x0 x1 x2 x3 x4 x5 x6 x7 : Nat × Value} : Rm d (x0 :: x1 :: x2 :: x3 :: x4 :: x5 :: x6 :: x7 :: (d, v) :: ρ) (x0 :: x1 :: x2 :: x3 :: x4 :: x5 :: x6 :: x7 :: ρ) := .there .h7
theorem Rm.h9 {d : Nat} {v : Value} {x0 x1 x2 x3 x4 x5 x6 x7 x8 : Nat × Value} : Rm d (x0 :: x1 :: x2 :: x3 :: x4 :: x5 :: x6 :: x7 :: x8 :: (d, v) :: ρ) (x0 :: x1 :: x2 :: x3 :: x4 :: x5 :: x6 :: x7 :: x8 :: ρ) := .there .h8
theorem Rm.h10 {d : Nat} {v : Value} {x0 x1 x2 x3 x4 x5 x6 x7 x8 x9 : Nat × Value} : Rm d (x0 :: x1 :: x2 :: x3 :: x4 :: x5 :: x6 :: x7 :: x8 :: x9 :: (d, v) :: ρ) (x0 :: x1 :: x2 :: x3 :: x4 :: x5 :: x6 :: x7 :: x8 :: x9 :: ρ) := .there .h9
theorem Rm.h11 {d : Nat} {v : Value} {x0 x1 x2 x3 x4 x5 x6 x7 x8 x9 x10 : Nat × Value} : Rm d (x0 :: x1 :: x2 :: x3 :: x4 :: x5 :: x6 :: x7 :: x8 :: x9 :: x10 :: (d, v) :: ρ) (x0 :: x1 :: x2 :: x3 :: x4 :: x5 :: x6 :: x7 :: x8 :: x9 :: x10 :: ρ) := .there .h10
theorem Rm.h12 {d : Nat} {v : Value} {x0 x1 x2 x3 x4 x5 x6 x7 x8 x9 x10 x11 : Nat × Value} : Rm d (x0 :: x1 :: x2 :: x3 :: x4 :: x5 :: x6 :: x7 :: x8 :: x9 :: x10 :: x11 :: (d, v) :: ρ) (x0 :: x1 :: x2 :: x3 :: x4 :: x5 :: x6 :: x7 :: x8 :: x9 :: x10 :: x11 :: ρ) := .there .h11
theorem Rm.h13 {d : Nat} {v : Value} {x0 x1 x2 x3 x4 x5 x6 x7 x8 x9 x10 x11 x12 : Nat × Value} : Rm d (x0 :: x1 :: x2 :: x3 :: x4 :: x5 :: x6 :: x7 :: x8 :: x9 :: x10 :: x11 :: x12 :: (d, v) :: ρ) (x0 :: x1 :: x2 :: x3 :: x4 :: x5 :: x6 :: x7 :: x8 :: x9 :: x10 :: x11 :: x12 :: ρ) := .there .h12
theorem Rm.h14 {d : Nat} {v : Value} {x0 x1 x2 x3 x4 x5 x6 x7 x8 x9 x10 x11 x12 x13 : Nat × Value} : Rm d (x0 :: x1 :: x2 :: x3 :: x4 :: x5 :: x6 :: x7 :: x8 :: x9 :: x10 :: x11 :: x12 :: x13 :: (d, v) :: ρ) (x0 :: x1 :: x2 :: x3 :: x4 :: x5 :: x6 :: x7 :: x8 :: x9 :: x10 :: x11 :: x12 :: x13 :: ρ) := .there .h13
theorem Rm.h15 {d : Nat} {v : Value} {x0 x1 x2 x3 x4 x5 x6 x7 x8 x9 x10 x11 x12 x13 x14 : Nat × Value} : Rm d (x0 :: x1 :: x2 :: x3 :: x4 :: x5 :: x6 :: x7 :: x8 :: x9 :: x10 :: x11 :: x12 :: x13 :: x14 :: (d, v) :: ρ) (x0 :: x1 :: x2 :: x3 :: x4 :: x5 :: x6 :: x7 :: x8 :: x9 :: x10 :: x11 :: x12 :: x13 :: x14 :: ρ) := .there .h14
theorem Rm.h16 {d : Nat} {v : Value} {x0 x1 x2 x3 x4 x5 x6 x7 x8 x9 x10 x11 x12 x13 x14 x15 : Nat × Value} : Rm d (x0 :: x1 :: x2 :: x3 :: x4 :: x5 :: x6 :: x7 :: x8 :: x9 :: x10 :: x11 :: x12 :: x13 :: x14 :: x15 :: (d, v) :: ρ) (x0 :: x1 :: x2 :: x3 :: x4 :: x5 :: x6 :: x7 :: x8 :: x9 :: x10 :: x11 :: x12 :: x13 :: x14 :: x15 :: ρ) := .there .h15
theorem Rm.h17 {d : Nat} {v : Value} {x0 x1 x2 x3 x4 x5 x6 x7 x8 x9 x10 x11 x12 x13 x14 x15 x16 : Nat × Value} : Rm d (x0 :: x1 :: x2 :: x3 :: x4 :: x5 :: x6 :: x7 :: x8 :: x9 :: x10 :: x11 :: x12 :: x13 :: x14 :: x15 :: x16 :: (d, v) :: ρ) (x0 :: x1 :: x2 :: x3 :: x4 :: x5 :: x6 :: x7 :: x8 :: x9 :: x10 :: x11 :: x12 :: x13 :: x14 :: x15 :: x16 :: ρ) := .there .h16
theorem Rm.h18 {d : Nat} {v : Value} {x0 x1 x2 x3 x4 x5 x6 x7 x8 x9 x10 x11 x12 x13 x14 x15 x16 x17 : Nat × Value} : Rm d (x0 :: x1 :: x2 :: x3 :: x4 :: x5 :: x6 :: x7 :: x8 :: x9 :: x10 :: x11 :: x12 :: x13 :: x14 :: x15 :: x16 :: x17 :: (d, v) :: ρ) (x0 :: x1 :: x2 :: x3 :: x4 :: x5 :: x6 :: x7 :: x8 :: x9 :: x10 :: x11 :: x12 :: x13 :: x14 :: x15 :: x16 :: x17 :: ρ) := .there .h17
theorem Rm.h19 {d : Nat} {v : Value} {x0 x1 x2 x3 x4 x5 x6 x7 x8 x9 x10 x11 x12 x13 x14 x15 x16 x17 x18 : Nat × Value} : Rm d (x0 :: x1 :: x2 :: x3 :: x4 :: x5 :: x6 :: x7 :: x8 :: x9 :: x10 :: x11 :: x12 :: x13 :: x14 :: x15 :: x16 :: x17 :: x18 :: (d, v) :: ρ) (x0 :: x1 :: x2 :: x3 :: x4 :: x5 :: x6 :: x7 :: x8 :: x9 :: x10 :: x11 :: x12 :: x13 :: x14 :: x15 :: x16 :: x17 :: x18 :: ρ) := .there .h18
theorem Rm.h20 {d : Nat} {v : Value} {x0 x1 x2 x3 x4 x5 x6 x7 x8 x9 x10 x11 x12 x13 x14 x15 x16 x17 x18 x19 : Nat × Value} : Rm d (x0 :: x1 :: x2 :: x3 :: x4 :: x5 :: x6 :: x7 :: x8 :: x9 :: x10 :: x11 :: x12 :: x13 :: x14 :: x15 :: x16 :: x17 :: x18 :: x19 :: (d, v) :: ρ) (x0 :: x1 :: x2 :: x3 :: x4 :: x5 :: x6 :: x7 :: x8 :: x9 :: x10 :: x11 :: x12 :: x13 :: x14 :: x15 :: x16 :: x17 :: x18 :: x19 :: ρ) := .there .h19
theorem Rm.h21 {d : Nat} {v : Value} {x0 x1 x2 x3 x4 x5 x6 x7 x8 x9 x10 x11 x12 x13 x14 x15 x16 x17 x18 x19 x20 : Nat × Value} : Rm d (x0 :: x1 :: x2 :: x3 :: x4 :: x5 :: x6 :: x7 :: x8 :: x9 :: x10 :: x11 :: x12 :: x13 :: x14 :: x15 :: x16 :: x17 :: x18 :: x19 :: x20 :: (d, v) :: ρ) (x0 :: x1 :: x2 :: x3 :: x4 :: x5 :: x6 :: x7 :: x8 :: x9 :: x10 :: x11 :: x12 :: x13 :: x14 :: x15 :: x16 :: x17 :: x18 :: x19 :: x20 :: ρ) := .there .h20
theorem Rm.h22 {d : Nat} {v : Value} {x0 x1 x2 x3 x4 x5 x6 x7 x8 x9 x10 x11 x12 x13 x14 x15 x16 x17 x18 x19 x20 x21 : Nat × Value} : Rm d (x0 :: x1 :: x2 :: x3 :: x4 :: x5 :: x6 :: x7 :: x8 :: x9 :: x10 :: x11 :: x12 :: x13 :: x14 :: x15 :: x16 :: x17 :: x18 :: x19 :: x20 :: x21 :: (d, v) :: ρ) (x0 :: x1 :: x2 :: x3 :: x4 :: x5 :: x6 :: x7 :: x8 :: x9 :: x10 :: x11 :: x12 :: x13 :: x14 :: x15 :: x16 :: x17 :: x18 :: x19 :: x20 :: x21 :: ρ) := .there .h21
theorem Rm.h23 {d : Nat} {v : Value} {x0 x1 x2 x3 x4 x5 x6 x7 x8 x9 x10 x11 x12 x13 x14 x15 x16 x17 x18 x19 x20 x21 x22 : Nat × Value} : Rm d (x0 :: x1 :: x2 :: x3 :: x4 :: x5 :: x6 :: x7 :: x8 :: x9 :: x10 :: x11 :: x12 :: x13 :: x14 :: x15 :: x16 :: x17 :: x18 :: x19 :: x20 :: x21 :: x22 :: (d, v) :: ρ) (x0 :: x1 :: x2 :: x3 :: x4 :: x5 :: x6 :: x7 :: x8 :: x9 :: x10 :: x11 :: x12 :: x13 :: x14 :: x15 :: x16 :: x17 :: x18 :: x19 :: x20 :: x21 :: x22 :: ρ) := .there .h22
end
abbrev u8 (x : Nat) : Value := .int .u8 (x : Int)
abbrev i64 (x : Nat) : Value := .int .i64 (x : Int)
abbrev u32 (x : Nat) : Value := .int .u32 (x : Int)
abbrev u64 (x : Nat) : Value := .int .u64 (x : Int)
abbrev pt (b o : Nat) : Value := .pointer (some ⟨b, o, none⟩)
abbrev rif (r : Nat) : Value := .iface 49 (pt r 0)
abbrev Hw (b : Nat) : Value := .slice (some ⟨b, 0, none⟩) 32768 32768
end Go.Eng
namespace Go.Eng
open Go
section
variable {P : Program} {G : World} {ρ : Env} {n : Nat} {L L' : List HProp} {d : Option Tmp} {ty : TypeId} {pos : String} {af : Array Edge} {g : Option (Nat × Bool)} {v : Value}
inductive OB (ρ : Env) : Option Operand → Option Nat → Prop
 | no : OB ρ none none
 | so {x : Operand} {k : IntKind} {i : Int} {j : Nat} (h : OV ρ x (.int k i)) (e : i = (j : Int)) : OB ρ (some x) (some j)
theorem sb_some {k : IntKind} {j y : Nat} {code : BoundsCode} (h : j ≤ y) (w : World) : (Instr.sliceBound (.int k (j : Int)) y code).run P w = .ok j w := by
 simp [Instr.sliceBound, asIntOf]
 exact fun h' => absurd h (by omega)
theorem r_slice {t e : TypeId} {x : Operand} {lo hi : Option Operand} {l h : Option Nat} {b off len c s off' m c' : Nat} (ht : P.underlying t = some (.slice e)) (hs : ∀ w, (sizeOf e).run P w = .ok s w)
 (hx : OV ρ x (.slice (some ⟨b, off, none⟩) len c)) (hl : OB ρ lo l) (hh : OB ρ hi h) (h1 : l.getD 0 ≤ h.getD len) (h2 : h.getD len ≤ c) (ho : (if c = l.getD 0 then off else off + l.getD 0 * s) = off') (hm : h.getD len - l.getD 0 = m) (hc : c - l.getD 0 = c') :
 Run P G ρ n L ⟨d, .slice t x lo hi none, ty, pos, af, g⟩ (.slice (some ⟨b, off', none⟩) m c') := fun w a _ ha => by
 have e1 : ∀ code w, (match hi.map a.eval with | some v => Instr.sliceBound v c code | none => (Pure.pure len : Sem Nat)).run P w = .ok (h.getD len) w := by
  intro code w
  cases hh with
  | no => rfl
  | so hv e => subst e; simp only [Option.map_some, hv.eval ha]; exact sb_some (by simpa using h2) w
 have e2 : ∀ code w, (match lo.map a.eval with | some v => Instr.sliceBound v (h.getD len) code | none => (Pure.pure 0 : Sem Nat)).run P w = .ok (l.getD 0) w := by
  intro code w
  cases hl with
  | no => rfl
  | so hv e => subst e; simp only [Option.map_some, hv.eval ha]; exact sb_some (by simpa using h1) w
 have key : (Instr.sliceBounds true len c (lo.map a.eval) (hi.map a.eval) none).run P w = .ok (l.getD 0, h.getD len, c) w := by
  unfold Instr.sliceBounds
  simp only [Sem.run_bind, Sem.run_pure, Result.andThen_ok]
  cases hh with
  | no =>
   simp only [Option.map_none]
   have := e2 .sliceB w
   cases hl <;> simp_all
  | so hv e =>
   have e1' := e1 .sliceAcap w
   have e2' := e2 .sliceB w
   simp only [Option.map_some] at *
   simp only [if_true]
   cases hl <;> simp_all
 subst ho hm hc
 simp only [execOp, hx.eval ha, Instr.sliceAt, Sem.run_bind, run_underlying ht, Result.andThen_ok, Option.map_none, Instr.slice, key, hs, Sem.run_pure, Option.map_some, add_at]
 split <;> simp
theorem r_slicea {t e : TypeId} {x : Operand} {lo hi : Option Operand} {l h : Option Nat} {b off c s off' m c' : Nat} (ht : P.underlying t = some (.array c e)) (hs : ∀ w, (sizeOf e).run P w = .ok s w)
 (hx : OV ρ x (.pointer (some ⟨b, off, none⟩))) (hl : OB ρ lo l) (hh : OB ρ hi h) (h1 : l.getD 0 ≤ h.getD c) (h2 : h.getD c ≤ c) (ho : (if c = l.getD 0 then off else off + l.getD 0 * s) = off') (hm : h.getD c - l.getD 0 = m) (hc : c - l.getD 0 = c') :
 Run P G ρ n L ⟨d, .slice t x lo hi none, ty, pos, af, g⟩ (.slice (some ⟨b, off', none⟩) m c') := fun w a _ ha => by
 have e1 : ∀ code w, (match hi.map a.eval with | some v => Instr.sliceBound v c code | none => (Pure.pure c : Sem Nat)).run P w = .ok (h.getD c) w := by
  intro code w
  cases hh with
  | no => rfl
  | so hv e => subst e; simp only [Option.map_some, hv.eval ha]; exact sb_some (by simpa using h2) w
 have e2 : ∀ code w, (match lo.map a.eval with | some v => Instr.sliceBound v (h.getD c) code | none => (Pure.pure 0 : Sem Nat)).run P w = .ok (l.getD 0) w := by
  intro code w
  cases hl with
  | no => rfl
  | so hv e => subst e; simp only [Option.map_some, hv.eval ha]; exact sb_some (by simpa using h1) w
 have key : (Instr.sliceBounds false c c (lo.map a.eval) (hi.map a.eval) none).run P w = .ok (l.getD 0, h.getD c, c) w := by
  unfold Instr.sliceBounds
  simp only [Sem.run_bind, Sem.run_pure, Result.andThen_ok]
  cases hh with
  | no =>
   simp only [Option.map_none]
   have := e2 .sliceB w
   cases hl <;> simp_all
  | so hv e =>
   have e1' := e1 .sliceAlen w
   have e2' := e2 .sliceB w
   simp only [Option.map_some] at *
   simp only [Bool.false_eq_true, if_false]
   cases hl <;> simp_all
 subst ho hm hc
 simp only [execOp, hx.eval ha, Instr.sliceAt, Sem.run_bind, run_underlying ht, Result.andThen_ok, Option.map_none, Instr.sureAddr, key, hs, Sem.run_pure, add_at]
 split <;> simp
def NewAt (G : World) (L : List HProp) (m : Nat) (F : Nat → Value) (mk : Nat → Value) (v : Value) (w : World) : Prop := ∃ b, v = mk b ∧ Sat G w (blk b m F :: L)
theorem r_alloc {t m : Nat} {cs : Array Value} {z : Value} {F : Nat → Value} (hz : ∀ w, (zeroValue t).run P w = .ok z w) (hc : z.cells = cs) (hm : cs.size = m) (hF : ∀ i, i < m → cs[i]? = some (F i)) :
 RunW P G ρ n L ⟨d, .alloc t, ty, pos, af, g⟩ (NewAt G L m F (fun b => .pointer (some ⟨b, 0, none⟩))) := fun w a hS _ => by
 refine ⟨.pointer (some ⟨w.heap.size, 0, none⟩), { w with heap := w.heap.push (.cells cs t) }, ?_, w.heap.size, rfl, hS.alloc hm hF⟩
 subst hc
 simp [execOp, Instr.alloc, hz, newVar, newRow, newObj, Sem.run]
theorem r_box {t m : Nat} {cs : Array Value} {x : Operand} {F : Nat → Value} (hx : OV ρ x v) (hc : v.cells = cs) (hm : cs.size = m) (hF : ∀ i, i < m → cs[i]? = some (F i)) :
 RunW P G ρ n L ⟨d, .box t x, ty, pos, af, g⟩ (NewAt G L m F (fun b => .pointer (some ⟨b, 0, none⟩))) := fun w a hS ha => by
 refine ⟨.pointer (some ⟨w.heap.size, 0, none⟩), { w with heap := w.heap.push (.cells cs t) }, ?_, w.heap.size, rfl, hS.alloc hm hF⟩
 subst hc
 simp [execOp, hx.eval ha, Instr.box, newVar, newRow, newObj, Sem.run]
inductive OPs (ρ : Env) : List (Nat × Operand) → List (Nat × Value) → Prop
 | nil : OPs ρ [] []
 | cons {i x v xs vs} (h : OV ρ x v) (hs : OPs ρ xs vs) : OPs ρ ((i, x) :: xs) ((i, v) :: vs)
theorem OPs.map {a : Act} {xs : List (Nat × Operand)} {vs : List (Nat × Value)} (h : OPs ρ xs vs) (ha : Ok ρ n a) : xs.map (fun (i, x) => (i, a.eval x)) = vs := by
 induction h with
 | nil => rfl
 | cons h _ ih => simp only [List.map_cons, ih, h.eval ha]
theorem r_build {t : TypeId} {xs : List (Nat × Operand)} {vs : List (Nat × Value)} (hx : OPs ρ xs vs) (h : ∀ w, (Instr.build t vs.toArray).run P w = .ok v w) :
 Run P G ρ n L ⟨d, .build t xs.toArray, ty, pos, af, g⟩ v := fun w a _ ha => by
 have e := hx.map ha
 simp only [execOp, Sem.run_bind, List.map_toArray, e, h, Result.andThen_ok, Sem.run_pure]
theorem r_buildSlice {t e : TypeId} {k m : Nat} {xs : List (Nat × Operand)} {vs : List (Nat × Value)} {cs : Array Value} {F : Nat → Value} (hx : OPs ρ xs vs)
 (h : ∀ w, (Instr.buildSlice t k vs.toArray).run P w = .ok (.slice (some ⟨w.heap.size, 0, none⟩) k k) { w with heap := w.heap.push (.cells cs e) }) (hm : cs.size = m) (hF : ∀ i, i < m → cs[i]? = some (F i)) :
 RunW P G ρ n L ⟨d, .buildSlice t k xs.toArray, ty, pos, af, g⟩ (NewAt G L m F (fun b => .slice (some ⟨b, 0, none⟩) k k)) := fun w a hS ha => by
 refine ⟨.slice (some ⟨w.heap.size, 0, none⟩) k k, { w with heap := w.heap.push (.cells cs e) }, ?_, w.heap.size, rfl, hS.alloc (T := e) hm hF⟩
 have e' := hx.map ha
 simp only [execOp, Sem.run_bind, List.map_toArray, e', h, Result.andThen_ok, Sem.run_pure]
def Callee (P : Program) (f : FuncId) : Prop := ∃ fn, P.funcs[f]? = some fn ∧ (fn.name == "runtime.NumGoroutine") = false ∧ fn.body.isNone = false
theorem run_callFunc {f : FuncId} {vs : Array Value} (hf : Callee P f) (w : World) : (callFunc f vs).run P w = .ok (.enter f vs) w := by
 obtain ⟨fn, h1, h2, h3⟩ := hf
 have hp : program.run P w = .ok P w := rfl
 simp only [callFunc, Sem.run_bind, hp, Result.andThen_ok, h1, h2, h3, Bool.false_eq_true, if_false, Sem.run_pure]
theorem r_call {f : FuncId} {xs : List Operand} {vs : List Value} {ts : Array TypeId} (hf : Callee P f) (hx : OVs ρ xs vs) :
 RunC P G ρ n L ⟨d, .call ⟨.value (.func f), xs.toArray, ts⟩, ty, pos, af, g⟩ f vs.toArray := fun w a _ ha => by
 have e := hx.map ha
 simp [execOp, resolve, Act.eval, Deferred.ofValue, invoke, e, run_callFunc hf]
theorem r_callv {f : FuncId} {t : Nat} {xs : List Operand} {vs : List Value} {ts : Array TypeId} (hf : Callee P f) (ht : (t, .func (.func f) #[] #[]) ∈ ρ) (hx : OVs ρ xs vs) :
 RunC P G ρ n L ⟨d, .call ⟨.value (.tmp t), xs.toArray, ts⟩, ty, pos, af, g⟩ f vs.toArray := fun w a _ ha => by
 have e := hx.map ha
 have e2 : a.eval (.tmp t) = _ := ha.vals _ _ ht
 simp [execOp, resolve, e2, Deferred.ofValue, invoke, e, run_callFunc hf]
theorem r_inv {f : FuncId} {r : Operand} {t : TypeId} {u u' : Value} {name : String} {xs : List Operand} {vs : List Value} {ts : Array TypeId} (hf : Callee P f) (hr : OV ρ r (.iface t u))
 (hm : ∀ w, (method (P.types.size + Made.depth) t u name).run P w = .ok (f, u') w) (hx : OVs ρ xs vs) :
 RunC P G ρ n L ⟨d, .call ⟨.invoke r name, xs.toArray, ts⟩, ty, pos, af, g⟩ f (u' :: vs).toArray := fun w a _ ha => by
 have e := hx.map ha
 simp [execOp, resolve, hr.eval ha, invoke, callMethod, e, program, Sem.run, hm, run_callFunc hf]
def updl (F : Nat → Value) (off : Nat) : List Value → Nat → Value
 | [] => F
 | v :: vs => updl (upd F off v) (off + 1) vs
theorem updl_lt {F : Nat → Value} : ∀ {vs : List Value} {off i : Nat}, i < off → updl F off vs i = F i := by
 intro vs
 induction vs generalizing F with
 | nil => intro _ _ _; rfl
 | cons v vs ih =>
  intro off i h
  show updl (upd F off v) (off + 1) vs i = F i
  rw [ih (by omega), upd_ne _ _ (by omega)]
theorem updl_ge {F : Nat → Value} : ∀ {vs : List Value} {off i : Nat}, off + vs.length ≤ i → updl F off vs i = F i := by
 intro vs
 induction vs generalizing F with
 | nil => intro _ _ _; rfl
 | cons v vs ih =>
  intro off i h
  simp only [List.length_cons] at h
  show updl (upd F off v) (off + 1) vs i = F i
  rw [ih (by omega), upd_ne _ _ (by omega)]
theorem updl_get {F : Nat → Value} : ∀ {vs : List Value} {off j : Nat} {v : Value}, vs[j]? = some v → updl F off vs (off + j) = v := by
 intro vs
 induction vs generalizing F with
 | nil => intro _ _ _ h; simp at h
 | cons u vs ih =>
  intro off j v h
  show updl (upd F off u) (off + 1) vs (off + j) = v
  cases j with
  | zero =>
   rw [updl_lt (by omega), Nat.add_zero, upd_same]
   simpa using h
  | succ j =>
   rw [show off + (j + 1) = off + 1 + j by omega]
   exact ih (by simpa using h)
theorem updl_at {F : Nat → Value} {vs : List Value} {off i : Nat} : updl F off vs i = if off ≤ i ∧ i < off + vs.length then vs.getD (i - off) undef else F i := by
 split
 ·
  rename_i h
  have h2 : i - off < vs.length := by omega
  have := updl_get (F := F) (off := off) (List.getElem?_eq_getElem h2)
  rw [show off + (i - off) = i by omega] at this
  rw [this]
  simp [List.getD, h2]
 rename_i h
 by_cases h1 : i < off
 ·
  exact updl_lt h1
 exact updl_ge (by omega)
theorem run_store1 {b i m : Nat} {F : Nat → Value} {w : World} (hS : Sat G w (blk b m F :: L)) (hi : i < m) (hv : one v = true) :
 (store ⟨b, i, none⟩ v).run P w = .ok () (w.setCell ⟨b, i, none⟩ v) := by
 have hc := hS.cell (.head _) hi
 have hf := hS.frozen (.head _) i
 unfold store
 cases v <;> first | (simp [Sem.run, hc, hf]; done) | cases hv
theorem run_storeCells {b off m : Nat} : ∀ {vs : List Value} {i : Nat} {F : Nat → Value} {w : World}, Sat G w (blk b m F :: L) → (∀ x ∈ vs, one x = true) → off + i + vs.length ≤ m →
 ∃ w', (storeCells ⟨b, off, none⟩ vs i).run P w = .ok () w' ∧ Sat G w' (blk b m (updl F (off + i) vs) :: L) := by
 intro vs
 induction vs with
 | nil => intro i F w hS _ _; exact ⟨w, rfl, hS⟩
 | cons v vs ih =>
  intro i F w hS hv hl
  simp only [List.length_cons] at hl
  have h1 := run_store1 (P := P) hS (i := off + i) (by omega) (hv v (.head _))
  obtain ⟨w', e, hS'⟩ := ih (i := i + 1) (hS.setCell (i := off + i) (v := v) (by omega) .here) (fun x hx => hv x (.tail _ hx)) (by omega)
  refine ⟨w', ?_, hS'⟩
  simp only [storeCells, Sem.run_bind, add_at, h1, Result.andThen_ok, e]
theorem run_loadCellsFrom' {b off : Nat} {w : World} : ∀ {vs : List Value} {i : Nat} {acc : Array Value}, (∀ j v, vs[j]? = some v → w.cell? ⟨b, off + i + j, none⟩ = some v) →
 (loadCellsFrom ⟨b, off, none⟩ i vs.length acc).run P w = .ok (acc ++ vs.toArray) w := by
 intro vs
 induction vs with
 | nil => intro i acc _; simp [loadCellsFrom]
 | cons v vs ih =>
  intro i acc h
  have h0 := h 0 v rfl
  simp only [List.length_cons, loadCellsFrom, Sem.run_bind, add_at]
  rw [run_load, Nat.add_zero] at *
  rw [h0]
  simp only [Result.andThen_ok]
  rw [ih (i := i + 1) (fun j u hj => by rw [show off + (i + 1) + j = off + i + (j + 1) by omega]; exact h (j + 1) u (by simpa using hj))]
  simp
theorem run_loadCells' {b off : Nat} {w : World} {vs : List Value} (h : ∀ j v, vs[j]? = some v → w.cell? ⟨b, off + j, none⟩ = some v) :
 (loadCells ⟨b, off, none⟩ vs.length).run P w = .ok vs.toArray w := by
 have := run_loadCellsFrom' (P := P) (b := b) (off := off) (w := w) (vs := vs) (i := 0) (acc := #[]) (by simpa using h)
 simpa [loadCells] using this
def Rds (P : Program) (G : World) (L : List HProp) (x : Value) (s k : Nat) (cs : List Value) : Prop :=
 cs.length = k * s ∧ ∀ w, Sat G w L → (Builtin.firstCells s k x).run P w = .ok cs.toArray w
theorem Rds.nil {s : Nat} : Rds P G L (.slice none 0 0) s 0 [] := ⟨by simp, fun w _ => by simp [Builtin.firstCells]⟩
theorem Rds.cells {b off k l c s : Nat} {cs : List Value} (hl : cs.length = k * s) (h : ∀ w, Sat G w L → ∀ j v, cs[j]? = some v → w.cell? ⟨b, off + j, none⟩ = some v) : Rds P G L (.slice (some ⟨b, off, none⟩) l c) s k cs :=
 ⟨hl, fun w hS => by simp only [Builtin.firstCells]; rw [← hl]; exact run_loadCells' (h w hS)⟩
theorem Rds.blk {b off m k l c s : Nat} {F : Nat → Value} {cs : List Value} (hm : blk b m F ∈ L) (hl : cs.length = k * s) (hk : off + k * s ≤ m) (h : ∀ j v, cs[j]? = some v → F (off + j) = v) : Rds P G L (.slice (some ⟨b, off, none⟩) l c) s k cs :=
 Rds.cells hl fun w hS j v hj => by
  have hlt : j < cs.length := (List.getElem?_eq_some_iff.1 hj).1
  rw [hS.cell hm (by omega), h j v hj]
theorem Rds.mono {x : Value} {s k : Nat} {cs : List Value} (h : Rds P G L x s k cs) (e : ∀ w, Sat G w L' → Sat G w L) : Rds P G L' x s k cs := ⟨h.1, fun w hS => h.2 w (e w hS)⟩
def slc (s : Nat) (v : Value) (k : Nat) (cs : List Value) : HProp := fun m => cs.length = k * s ∧
 ((v = .slice none 0 0 ∧ k = 0) ∨ ∃ b c F, v = .slice (some ⟨b, 0, none⟩) k c ∧ k ≤ c ∧ blk b (c * s) F m ∧ ∀ j x, cs[j]? = some x → F j = x)
theorem Sat.slc {w : World} {s k : Nat} {cs : List Value} (h : Sat G w (Eng.slc s v k cs :: L)) : cs.length = k * s ∧
 ((v = .slice none 0 0 ∧ k = 0 ∧ cs = []) ∨ ∃ b c F, v = .slice (some ⟨b, 0, none⟩) k c ∧ k ≤ c ∧ Sat G w (Eng.blk b (c * s) F :: L) ∧ ∀ j x, cs[j]? = some x → F j = x) := by
 obtain ⟨m, ⟨hl, hA⟩, hm, hL⟩ := h.sat
 refine ⟨hl, ?_⟩
 rcases hA with ⟨h1, h2⟩ | ⟨b, c, F, h1, h2, h3, h4⟩
 ·
  subst h2; exact .inl ⟨h1, rfl, by simpa using hl⟩
 exact .inr ⟨b, c, F, h1, h2, { h with sat := ⟨m, h3, hm, hL⟩ }, h4⟩
theorem Sat.toSlc {w : World} {b s k c : Nat} {F : Nat → Value} {cs : List Value} (h : Sat G w (Eng.blk b (c * s) F :: L)) (hl : cs.length = k * s) (hk : k ≤ c) (hF : ∀ j x, cs[j]? = some x → F j = x) :
 Sat G w (Eng.slc s (.slice (some ⟨b, 0, none⟩) k c) k cs :: L) := h.imp fun _ hm => ⟨hl, .inr ⟨b, c, F, rfl, hk, hm, hF⟩⟩
theorem Rds.slc {x : Value} {s k : Nat} {cs : List Value} (hm : Eng.slc s x k cs ∈ L) {w0 : World} (hS0 : Sat G w0 L) : Rds P G L x s k cs := by
 obtain ⟨m, ⟨hl, hA⟩, _⟩ := hS0.obj hm
 rcases hA with ⟨h1, h2⟩ | ⟨b, c, F, h1, h2, h3, h4⟩
 ·
  subst h2; subst h1
  obtain rfl : cs = [] := by simpa using hl
  exact Rds.nil
 subst h1
 refine Rds.cells hl fun w hS j v hj => ?_
 obtain ⟨m', ⟨_, hA'⟩, hm'⟩ := hS.obj hm
 rcases hA' with ⟨h1', _⟩ | ⟨b', c', F', h1', h2', h3', h4'⟩
 ·
  cases h1'
 cases h1'
 obtain ⟨cs', T, e1, e2, e3⟩ := h3'
 have hlt : j < cs.length := (List.getElem?_eq_some_iff.1 hj).1
 have : j < c * s := Nat.lt_of_lt_of_le (hl ▸ hlt) (Nat.mul_le_mul_right _ h2')
 have h5 := (hm' _ _ e1).2
 simp [World.cell?, h5, e3 j this, h4' j v hj]
end
end Go.Eng
namespace Go.Eng
open Go
theorem growBy_le {need M : Nat} (hM : need + (need + 768) / 4 ≤ M) : ∀ r c, c ≤ M → Builtin.growBy need r c ≤ M := by
 intro r
 induction r with
 | zero => intro c h; exact h
 | succ r ih =>
  intro c h
  unfold Builtin.growBy
  split
  ·
   exact h
  exact ih _ (by omega)
theorem nextslicecap_le {need c : Nat} (h : c < need) : Builtin.nextslicecap need c ≤ 2 * need + 192 := by
 unfold Builtin.nextslicecap
 split
 ·
  omega
 split
 ·
  omega
 exact growBy_le (by omega) _ _ (by omega)
structure EL (P : Program) (t e s bt : Nat) : Prop where
 ut : P.underlying t = some (.slice e)
 sz : ∀ w, (sizeOf e).run P w = .ok s w
 ti : ∃ info : TypeInfo, (∀ w, (typeInfo e).run P w = .ok info w) ∧ info.bytes = bt
 zv : ∃ z, (∀ w, (zeroValue e).run P w = .ok z w) ∧ z.cells.size = s
section
variable {P : Program} {G : World} {ρ : Env} {n : Nat} {L L' R : List HProp} {d : Option Tmp} {ty : TypeId} {pos : String} {af : Array Edge} {g : Option (Nat × Bool)} {v : Value}
theorem choose_run (q : Question) (w : World) : ∃ c w', (choose q).run P w = .ok c w' ∧ w'.heap = w.heap ∧ w'.os = w.os ∧ w'.output = w.output ∧ (q.forced = false → c = q.cut (w.tape w.drawn q)) := by
 unfold choose
 simp only [Sem.run]
 split
 ·
  rename_i h; exact ⟨_, _, rfl, rfl, rfl, rfl, fun h' => by rw [h] at h'; cases h'⟩
 exact ⟨_, _, rfl, rfl, rfl, rfl, fun _ => rfl⟩
theorem Sat.heap {w w' : World} (h : Sat G w L) (h1 : w'.heap = w.heap) (h2 : w'.os = w.os) (h3 : w'.output = w.output) : Sat G w' L := by
 refine ⟨fun b hb => by rw [h1]; exact h.base b hb, by rw [h1]; exact h.size, by rw [h2]; exact h.os, by rw [h3]; exact h.output, fun b c t f hb hc => h.calm b c t f hb (by rw [← h1]; exact hc), ?_⟩
 have : own G w' = own G w := by funext b; unfold own; rw [h1]
 rw [this]; exact h.sat
theorem run_askRoom (k : Nat) (w : World) : (askRoom k).run P w = .ok () w := by
 unfold askRoom
 split <;> rfl
theorem size_zeroCells (cs : Array Value) (k : Nat) : (Builtin.zeroCells cs k).size = k * cs.size := by simp [Builtin.zeroCells]
theorem run_append_grow {t t2 e2 e s bt k j cap : Nat} {base : Option Addr} {xv z : Value} {os ds : List Value} (hE : EL P t e s bt) (hz : ∀ w, (zeroValue e).run P w = .ok z w) (h2 : P.underlying t2 = some (.slice e2)) {w : World}
 (hxs : ∃ p c, xv = .slice p j c) (hg : cap < k + j) (hb : (2 * (k + j) + 192) * bt ≤ 2 ^ 48) (hk : k + j < 2 ^ 62)
 (ho : ∀ w' : World, w'.heap = w.heap → w'.os = w.os → w'.output = w.output → (Builtin.firstCells s k (.slice base k cap)).run P w' = .ok os.toArray w')
 (hx : ∀ w' : World, w'.heap = w.heap → w'.os = w.os → w'.output = w.output → (Builtin.firstCells s j xv).run P w' = .ok ds.toArray w') :
 ∃ (nc : Nat) (w1 : World), k + j ≤ nc ∧ w1.heap = w.heap ∧ w1.os = w.os ∧ w1.output = w.output ∧ (Builtin.append_ #[t, t2] ty #[.slice base k cap, xv]).run P w =
  .ok (.slice (some ⟨w.heap.size, 0, none⟩) (k + j) nc) { w1 with heap := w1.heap.push (.cells (os.toArray ++ ds.toArray ++ Builtin.zeroCells z.cells (nc - (k + j))) e) } := by
 obtain ⟨info, hti, hbt⟩ := hE.ti
 obtain ⟨nc, w1, hch, hh1, ho1, hp1, hcut⟩ := choose_run (P := P) (.appendCap (k + j) cap e) w
 have hncap : k + j ≤ nc := by have := hcut rfl; subst this; simp [Question.cut]
 have hcap : ¬ (Builtin.nextslicecap (k + j) cap * info.bytes > 2 ^ 48) := by
  rw [hbt]
  have := Nat.mul_le_mul_right bt (nextslicecap_le hg)
  omega
 have hmax : ¬ (((k + j : Nat) : Int) > IntKind.i64.max) := by
  have : IntKind.i64.max = 9223372036854775807 := by decide
  rw [this]; omega
 have h1 := ho w1 hh1 ho1 hp1
 have h2' := hx w1 hh1 ho1 hp1
 refine ⟨nc, w1, hncap, hh1, ho1, hp1, ?_⟩
 obtain ⟨p, c, rfl⟩ := hxs
 simp only [Builtin.append_, Sem.run_bind, List.getElem?_toArray, List.getElem?_cons_zero, List.getElem?_cons_succ, run_underlying hE.ut, run_underlying h2, Result.andThen_ok, hE.sz, Sem.run_pure, Builtin.lenOf, Bool.false_eq_true, if_false, Bool.not_false, if_true]
 rw [if_neg (by omega)]
 simp only [Sem.run_ite, Sem.run_bind, Sem.run_pure, hti, Result.andThen_ok]
 rw [if_neg (fun h => hmax h.1)]
 simp only [hcap, if_false]
 simp only [Result.andThen_ok, hch, run_askRoom, h1, h2', hz]
 rw [← hh1]
 simp [newRow, newObj, Sem.run]
theorem run_append_fits {t t2 e2 e s bt k j cap b : Nat} {xv : Value} {ds : List Value} {F : Nat → Value} (hE : EL P t e s bt) (h2 : P.underlying t2 = some (.slice e2)) {w : World}
 (hxs : ∃ p c, xv = .slice p j c) (hg : k + j ≤ cap) (hS : Sat G w (blk b (cap * s) F :: R)) (hone : ∀ x ∈ ds, one x = true) (hdl : ds.length = j * s)
 (hx : (Builtin.firstCells s j xv).run P w = .ok ds.toArray w) :
 ∃ w', (Builtin.append_ #[t, t2] ty #[.slice (some ⟨b, 0, none⟩) k cap, xv]).run P w = .ok (.slice (some ⟨b, 0, none⟩) (k + j) cap) w' ∧ Sat G w' (blk b (cap * s) (updl F (k * s) ds) :: R) := by
 obtain ⟨info, hti, hbt⟩ := hE.ti
 have hlen : k * s + 0 + ds.length ≤ cap * s := by
  rw [hdl, Nat.add_zero, ← Nat.add_mul]; exact Nat.mul_le_mul_right _ hg
 obtain ⟨w', e1, hS'⟩ := run_storeCells (P := P) (off := k * s) (i := 0) hS hone hlen
 refine ⟨w', ?_, by simpa using hS'⟩
 obtain ⟨p, c, rfl⟩ := hxs
 simp only [Builtin.append_, Sem.run_bind, List.getElem?_toArray, List.getElem?_cons_zero, List.getElem?_cons_succ, run_underlying hE.ut, run_underlying h2, Result.andThen_ok, hE.sz, Sem.run_pure, Builtin.lenOf, Bool.false_eq_true, if_false]
 rw [if_pos hg]
 simp only [Bool.not_false, if_true, Sem.run_bind, hx, Result.andThen_ok, add_at, Nat.zero_add, e1, Sem.run_pure]
theorem run_append {t t2 e2 e s bt k j : Nat} {xv : Value} {cs ds : List Value} (hE : EL P t e s bt) (h2 : P.underlying t2 = some (.slice e2)) {w : World} (hS : Sat G w (slc s v k cs :: R))
 (hxs : ∃ p c, xv = .slice p j c) (hx : Rds P G (slc s v k cs :: R) xv s j ds) (hone : ∀ x ∈ ds, one x = true) (hb : (2 * (k + j) + 192) * bt ≤ 2 ^ 48) (hk : k + j < 2 ^ 62) :
 ∃ v' w', (Builtin.append_ #[t, t2] ty #[v, xv]).run P w = .ok v' w' ∧ Sat G w' (slc s v' (k + j) (cs ++ ds) :: R) := by
 obtain ⟨z, hz, hzs⟩ := hE.zv
 obtain ⟨hdl, hx⟩ := hx
 have hx' : ∀ w' : World, w'.heap = w.heap → w'.os = w.os → w'.output = w.output → (Builtin.firstCells s j xv).run P w' = .ok ds.toArray w' := fun w' h1 h2 h3 => hx w' (hS.heap h1 h2 h3)
 obtain ⟨hcl, hc⟩ := hS.slc
 have grow : ∀ base cap, v = .slice base k cap → cap < k + j → (∀ w' : World, w'.heap = w.heap → w'.os = w.os → w'.output = w.output → (Builtin.firstCells s k (.slice base k cap)).run P w' = .ok cs.toArray w') →
  ∃ v' w', (Builtin.append_ #[t, t2] ty #[v, xv]).run P w = .ok v' w' ∧ Sat G w' (slc s v' (k + j) (cs ++ ds) :: R) := by
  rintro base cap rfl hg ho
  obtain ⟨nc, w1, hnc, hh1, ho1, hp1, he⟩ := run_append_grow (ty := ty) hE hz h2 hxs hg hb hk ho hx'
  have hsz : (cs.toArray ++ ds.toArray ++ Builtin.zeroCells z.cells (nc - (k + j))).size = nc * s := by
   simp only [Array.size_append, List.size_toArray, size_zeroCells, hcl, hdl, hzs]
   rw [← Nat.add_mul, ← Nat.add_mul]
   congr 1
   omega
  have hS1 := (hS.tail.heap hh1 ho1 hp1).alloc (T := e) hsz (F := fun i => (cs.toArray ++ ds.toArray ++ Builtin.zeroCells z.cells (nc - (k + j))).getD i undef) (fun i hi => by
   rw [Array.getD_eq_getD_getElem?, Array.getElem?_eq_getElem (by omega)]; rfl)
  rw [hh1] at hS1
  refine ⟨_, _, he, ?_⟩
  rw [← hh1] at *
  refine Sat.toSlc (by simpa [hh1] using hS1) (by simp [hcl, hdl, Nat.add_mul]) hnc (fun i x hi => ?_)
  have hlt : i < (cs ++ ds).length := (List.getElem?_eq_some_iff.1 hi).1
  simp only [List.length_append] at hlt
  rw [Array.getElem?_append_left (by simp; omega), List.getElem?_toArray, hi]
  rfl
 rcases hc with ⟨rfl, rfl, rfl⟩ | ⟨b, cap, F, rfl, hkc, hSb, hF⟩
 ·
  by_cases hj : j = 0
  ·
   subst hj
   obtain rfl : ds = [] := by simpa using hdl
   obtain ⟨p, c, rfl⟩ := hxs
   refine ⟨.slice none 0 0, w, ?_, hS⟩
   simp only [Builtin.append_, Sem.run_bind, List.getElem?_toArray, List.getElem?_cons_zero, List.getElem?_cons_succ, run_underlying hE.ut, run_underlying h2, Result.andThen_ok, hE.sz, Sem.run_pure, Builtin.lenOf, Bool.false_eq_true, if_false,
    Nat.le_refl, if_true, Bool.not_false, Nat.add_zero, hx' w rfl rfl rfl]
  exact grow none 0 rfl (by omega) (fun w' _ _ _ => rfl)
 by_cases hg : k + j ≤ cap
 ·
  obtain ⟨w', e1, hS'⟩ := run_append_fits (ty := ty) hE h2 hxs hg hSb hone hdl (hx' w rfl rfl rfl)
  refine ⟨_, w', e1, Sat.toSlc hS' (by simp [hcl, hdl, Nat.add_mul]) hg (fun i x hi => ?_)⟩
  by_cases h : i < cs.length
  ·
   rw [updl_lt (by omega)]
   exact hF i x (by rwa [List.getElem?_append_left h] at hi)
  rw [List.getElem?_append_right (by omega)] at hi
  have := updl_get (F := F) (off := k * s) hi
  rwa [hcl, show k * s + (i - k * s) = i by omega] at this
 refine grow (some ⟨b, 0, none⟩) cap rfl (by omega) (fun w' h1 h2 h3 => ?_)
 have := (Rds.blk (P := P) (G := G) (L := Eng.blk b (cap * s) F :: R) (off := 0) (k := k) (l := k) (c := cap) (s := s) (cs := cs) (.head _) hcl (by rw [Nat.zero_add]; exact Nat.mul_le_mul_right _ hkc) (fun i x hi => by rw [Nat.zero_add]; exact hF i x hi)).2
 exact this w' (hSb.heap h1 h2 h3)
theorem r_append {t t2 e2 e s bt k j : Nat} {x y : Operand} {xv : Value} {cs ds : List Value} (hE : EL P t e s bt) (h2 : P.underlying t2 = some (.slice e2)) (hv : OV ρ x v) (hy : OV ρ y xv)
 (hxs : ∃ p c, xv = .slice p j c) (hx : Rds P G (slc s v k cs :: R) xv s j ds) (hone : ∀ x ∈ ds, one x = true) (hb : (2 * (k + j) + 192) * bt ≤ 2 ^ 48) (hk : k + j < 2 ^ 62) :
 RunW P G ρ n (slc s v k cs :: R) ⟨d, .call ⟨.builtin .append, #[x, y], #[t, t2]⟩, ty, pos, af, g⟩ (fun v' w' => Sat G w' (slc s v' (k + j) (cs ++ ds) :: R)) := fun w a hS ha => by
 obtain ⟨v', w', e1, e2⟩ := run_append (ty := ty) hE h2 hS hxs hx hone hb hk
 refine ⟨v', w', ?_, e2⟩
 simp [execOp, resolve, invoke, builtin, hv.eval ha, hy.eval ha, e1]
theorem r_copy {t t2 e s bt k j l b off m cap c : Nat} {x y : Operand} {p : Option Addr} {ds : List Value} {F : Nat → Value} (hE : EL P t e s bt) (hv : OV ρ x (.slice (some ⟨b, off, none⟩) k cap)) (hy : OV ρ y (.slice p j c))
 (hl : min j k = l) (hx : Rds P G (blk b m F :: R) (.slice p j c) s l ds) (hone : ∀ x ∈ ds, one x = true) (hm : off + l * s ≤ m) :
 RunW P G ρ n (blk b m F :: R) ⟨d, .call ⟨.builtin .copy, #[x, y], #[t, t2]⟩, ty, pos, af, g⟩ (fun v' w' => v' = .int .i64 (l : Int) ∧ Sat G w' (blk b m (updl F off ds) :: R)) := fun w a hS ha => by
 obtain ⟨hdl, hx⟩ := hx
 obtain ⟨w', e1, hS'⟩ := run_storeCells (P := P) (off := off) (i := 0) hS hone (by omega)
 have hx0 := hx w hS
 refine ⟨_, w', ?_, rfl, by simpa using hS'⟩
 subst hl
 simp [execOp, resolve, invoke, builtin, hv.eval ha, hy.eval ha, Builtin.copy_, run_underlying hE.ut, hE.sz, Builtin.lenOf, Nat.min_def] at *
 split
 all_goals (rename_i h; simp only [h, if_true, if_false] at hx0; simp [hx0, e1, goInt])
theorem r_copy0 {t t2 e s bt k j cap c : Nat} {x y : Operand} {p q : Option Addr} (hE : EL P t e s bt) (hv : OV ρ x (.slice q k cap)) (hy : OV ρ y (.slice p j c)) (hl : min j k = 0) :
 Run P G ρ n L ⟨d, .call ⟨.builtin .copy, #[x, y], #[t, t2]⟩, ty, pos, af, g⟩ (.int .i64 0) := fun w a _ ha => by
 have e1 : ∀ w, (Builtin.firstCells s 0 (.slice p j c)).run P w = .ok #[] w := by
  intro w
  cases p with
  | none => rfl
  | some a => simp [Builtin.firstCells, loadCells, loadCellsFrom]
 have hl' : Nat.min j k = 0 := hl
 cases q <;> simp [execOp, resolve, invoke, builtin, hv.eval ha, hy.eval ha, Builtin.copy_, run_underlying hE.ut, hE.sz, Builtin.lenOf, hl', e1, goInt, storeCells]
end
end Go.Eng
namespace Go.Eng
open Go
section
variable {P : Program} {G : World} {ρ : Env} {n : Nat} {L L' R : List HProp} {d : Option Tmp} {ty : TypeId} {pos : String} {af : Array Edge} {g : Option (Nat × Bool)} {v : Value}
theorem r_make {t e bt l c : Nat} {x y : Operand} {k k' : IntKind} {i i' : Int} {z : Value} (ht : P.underlying t = some (.slice e)) (hs : ∀ w, (sizeOf e).run P w = .ok 1 w) (hti : ∃ info : TypeInfo, (∀ w, (typeInfo e).run P w = .ok info w) ∧ info.bytes = bt)
 (hz : ∀ w, (zeroValue e).run P w = .ok z w) (hone : one z = true) (hx : OV ρ x (.int k i)) (hy : OV ρ y (.int k' i')) (hi : i = (l : Int)) (hi' : i' = (c : Int)) (hlc : l ≤ c) (hb : c * bt ≤ 2 ^ 48) (hc : c < 2 ^ 62) :
 RunW P G ρ n L ⟨d, .makeSlice t x y, ty, pos, af, g⟩ (NewAt G L c (fun _ => z) (fun b => .slice (some ⟨b, 0, none⟩) l c)) := fun w a hS ha => by
 obtain ⟨info, h1, h2⟩ := hti
 subst hi hi' h2
 have hcs : z.cells = #[z] := by cases z <;> first | rfl | cases hone
 have w1 : IntKind.i64.wrap (l : Int) = l := by simp [IntKind.wrap, IntKind.signed, IntKind.bits]; omega
 have w2 : IntKind.i64.wrap (c : Int) = c := by simp [IntKind.wrap, IntKind.signed, IntKind.bits]; omega
 have hb1 : ¬ ((2 : Int) ^ 48 < info.bytes * c) := by
  have h3 : (info.bytes : Int) * c = ((c * info.bytes : Nat) : Int) := by rw [Int.natCast_mul, Int.mul_comm]
  rw [h3]
  omega
 refine ⟨_, { w with heap := w.heap.push (.cells ((Array.range c).map (fun _ => z)) e) }, ?_, w.heap.size, rfl, hS.alloc (by simp) (fun i hi => by simp [hi])⟩
 simp only [execOp, hx.eval ha, hy.eval ha, Instr.makeSlice, Sem.run_bind, run_underlying ht, Result.andThen_ok, asInt, asIntOf, Sem.run_pure, h1, w1, w2, Sem.run_ite]
 rw [if_neg (by simp; omega)]
 simp only [Result.andThen_ok, run_askRoom, hs, Nat.mul_one, Int.toNat_natCast, hz, hcs]
 by_cases h0 : c = 0
 ·
  subst h0
  have h0 : Array.range 0 = #[] := rfl
  simp [newRow, newObj, Sem.run, h0]
 rw [if_neg h0]
 simp [newRow, newObj, Sem.run, Nat.mod_one]
theorem r_stagg {t b off m s : Nat} {F : Nat → Value} {x y : Operand} {cs : List Value} (hs : ∀ w, (sizeOf t).run P w = .ok s w) (h : OV ρ x (.pointer (some ⟨b, off, none⟩))) (hy : OV ρ y (.agg cs.toArray)) (hl : cs.length = s) (hi : off + s ≤ m)
 (hone : ∀ x ∈ cs, one x = true) : RunS P G ρ n (blk b m F :: R) ⟨none, .store t x y, ty, pos, af, g⟩ (blk b m (updl F off cs) :: R) := fun w a hS ha => by
 obtain ⟨w', e1, hS'⟩ := run_storeCells (P := P) (off := off) (i := 0) hS hone (by omega)
 refine ⟨w', ?_, by simpa using hS'⟩
 simp [execOp, h.eval ha, hy.eval ha, Instr.storeAt, Instr.sureAddr, storeVar, Value.cells, hs, hl, e1]
def pairs (ps : List (Int × Int)) : List (Value × Value) := ps.map fun p => (.int .i64 p.1, .int .i64 p.2)
def imap (b : Nat) (f : Int → Option Int) (sz : Nat) : HProp := mapb b fun es _ => ∃ ps : List (Int × Int), es.toList.map (fun e => (e.key, e.val)) = pairs ps ∧ ps.length = sz ∧ ∀ x, ps.lookup x = f x
theorem findNow_int {k : IntKind} {x : Int} : ∀ {es : List MapEntry} {ps : List (Int × Int)} (i : Nat), es.map (fun e => (e.key, e.val)) = pairs ps →
 ∃ j, Instr.findNow (.int k) (.int .i64 x) es i = some ((ps.lookup x).map fun y => (i + j, .int .i64 y)) ∧ (∀ y, ps.lookup x = some y → (es[j]?).map (·.key) = some (.int .i64 x) ∧ ps[j]? = some (x, y) ∧ ∀ l, l < j → ∀ p, ps[l]? = some p → p.1 ≠ x) := by
 intro es
 induction es with
 | nil =>
  intro ps i h
  cases ps with
  | nil => exact ⟨0, rfl, fun y hy => by cases hy⟩
  | cons p ps => simp [pairs] at h
 | cons e es ih =>
  intro ps i h
  cases ps with
  | nil => simp [pairs] at h
  | cons p ps =>
   obtain ⟨a, b⟩ := p
   simp only [pairs, List.map_cons, List.cons.injEq, Prod.mk.injEq] at h
   obtain ⟨⟨h1, h2⟩, h3⟩ := h
   by_cases hx : x = a
   ·
    subst hx
    refine ⟨0, ?_, fun y hy => ?_⟩
    ·
     simp [Instr.findNow, h1, Instr.sameNow, h2]
    simp at hy; subst hy; exact ⟨by simp [h1], rfl, fun l hl => by omega⟩
   obtain ⟨j, h4, h5⟩ := ih (i + 1) h3
   have hne : (x == a) = false := by simpa using hx
   refine ⟨j + 1, ?_, fun y hy => ?_⟩
   ·
    simp only [Instr.findNow, h1, Instr.sameNow, if_true, hne, h4, List.lookup]
    simp [Nat.add_comm, Nat.add_left_comm]
   simp only [List.lookup, hne] at hy
   obtain ⟨h6, h7, h8⟩ := h5 y hy
   refine ⟨by simpa using h6, by simpa using h7, fun l hl p hp => ?_⟩
   cases l with
   | zero => simp at hp; subst hp; exact fun e => hx e.symm
   | succ l => exact h8 l (by omega) p (by simpa using hp)
theorem run_checkKey {k : IntKind} {t m : Nat} {b : Bool} (ht : P.underlying t = some (.int k)) (x : Int) (w : World) : (Instr.checkKey b (m + 1) t (.int .i64 x)).run P w = .ok () w := by
 simp [Instr.checkKey, run_underlying ht]
theorem Sat.map {w : World} {b : Nat} {M : Array MapEntry → Nat → Prop} (hA : mapb b M ∈ L) (h : Sat G w L) : ∃ es c, w.heap[b]? = some (.map es c) ∧ M es c := by
 obtain ⟨m, ⟨es, c, h1, h2⟩, h4⟩ := h.obj hA
 exact ⟨es, c, (h4 _ _ h1).2, h2⟩
theorem run_getObj_map {w : World} {b : Nat} {es : Array MapEntry} {c : Nat} (h : w.heap[b]? = some (.map es c)) : (getObj b).run P w = .ok (.map es c) w := by
 simp [getObj, Sem.run, h]
theorem run_setObj_map {w : World} {b : Nat} {es : Array MapEntry} {c : Nat} {o : Obj} (h : w.heap[b]? = some (.map es c)) : (setObj b o).run P w = .ok () { w with heap := w.heap.setIfInBounds b o } := by
 simp [setObj, Sem.run, h]
theorem Sat.setMap {w : World} {b : Nat} {M M' : Array MapEntry → Nat → Prop} {es' : Array MapEntry} {c' : Nat} (h : Sat G w (mapb b M :: R)) (hM : M' es' c') :
 Sat G { w with heap := w.heap.setIfInBounds b (.map es' c') } (mapb b M' :: R) := by
 obtain ⟨m, ⟨es, c, h1, h2⟩, h4⟩ := h.obj (.head _)
 have h5 := (h4 _ _ h1).2
 have hlt : b < w.heap.size := (Array.getElem?_eq_some_iff.1 h5).1
 refine h.setObj (b := b) (o' := .map es' c') .here ?_ (fun c t f e => by cases e) (fun x => ?_) (by simp) rfl rfl
 ·
  rintro m' ⟨es1, c1, h6, h7⟩
  exact ⟨⟨_, h6⟩, es', c', by simp [PH.set], hM⟩
 by_cases hx : x = b
 ·
  subst hx; simp [hlt]
 simp only [if_neg hx]; rw [Array.getElem?_setIfInBounds_ne (fun e => hx e.symm)]
theorem r_makeMap {t : TypeId} : RunW P G ρ n L ⟨d, .makeMap t none, ty, pos, af, g⟩ (fun v w => ∃ b, v = .map (some b) ∧ Sat G w (imap b (fun _ => none) 0 :: L)) := fun w a hS ha => by
 refine ⟨.map (some w.heap.size), _, ?_, w.heap.size, rfl, hS.allocMap ⟨[], rfl, rfl, fun _ => rfl⟩⟩
 simp [execOp, Instr.makeMap, newObj, Sem.run]
theorem r_lookup {t kt et b sz : Nat} {k : IntKind} {f : Int → Option Int} {x y : Operand} {i : Int} (ht : P.underlying t = some (.map kt et)) (hk : P.underlying kt = some (.int k)) (hz : ∀ w, (zeroValue et).run P w = .ok (.int .i64 0) w) (hm : imap b f sz ∈ L)
 (hx : OV ρ x (.map (some b))) (hy : OV ρ y (.int .i64 i)) : Run P G ρ n L ⟨d, .lookup t x y true, ty, pos, af, g⟩ (.tuple #[.int .i64 ((f i).getD 0), .bool (f i).isSome]) := fun w a hS ha => by
 obtain ⟨es, c, h1, ps, h2, h3, h4⟩ := hS.map hm
 obtain ⟨j, h5, _⟩ := findNow_int (k := k) (x := i) 0 h2
 rw [h4] at h5
 simp only [execOp, hx.eval ha, hy.eval ha, Instr.lookup, Sem.run_bind, run_underlying ht, Result.andThen_ok, run_getObj_map h1, Sem.run_pure, run_checkKey hk, Instr.findKey, run_underlying hk, h5]
 cases f i <;> simp [hz]
theorem r_lenMap {t kt et b sz : Nat} {f : Int → Option Int} {x : Operand} {af2 : Array TypeId} (ht : P.underlying t = some (.map kt et)) (hm : imap b f sz ∈ L) (hx : OV ρ x (.map (some b))) (h : af2 = #[t] := by rfl) :
 Run P G ρ n L ⟨d, .call ⟨.builtin .len, #[x], af2⟩, ty, pos, af, g⟩ (.int .i64 (sz : Int)) := fun w a hS ha => by
 subst h
 obtain ⟨es, c, h1, ps, h2, h3, h4⟩ := hS.map hm
 have : es.size = sz := by rw [← h3, ← Array.length_toList, ← List.length_map (f := fun e : MapEntry => (e.key, e.val)), h2]; simp [pairs]
 simp [execOp, hx.eval ha, resolve, invoke, builtin, Builtin.len_, run_underlying ht, goInt, run_getObj_map h1, this]
theorem lookup_append_single {ps : List (Int × Int)} {x i y : Int} (h : ps.lookup i = none) : (ps ++ [(i, y)]).lookup x = if x = i then some y else ps.lookup x := by
 induction ps with
 | nil =>
  by_cases hx : x = i
  ·
   subst hx; simp
  have : (x == i) = false := by simpa using hx
  simp [List.lookup, this, hx]
 | cons p ps ih =>
  obtain ⟨a, b⟩ := p
  simp only [List.lookup] at h
  have hia : (i == a) = false := by
   cases e : i == a with
   | false => rfl
   | true => rw [e] at h; cases h
  rw [hia] at h
  simp only [List.cons_append, List.lookup]
  cases e : x == a with
  | true =>
   have : x ≠ i := by rintro rfl; rw [e] at hia; cases hia
   simp [this]
  | false => simpa using ih h
theorem lookup_set {x i y y0 : Int} : ∀ {ps : List (Int × Int)} {j : Nat}, ps[j]? = some (i, y0) → (∀ l, l < j → ∀ p, ps[l]? = some p → p.1 ≠ i) → (ps.set j (i, y)).lookup x = if x = i then some y else ps.lookup x := by
 intro ps
 induction ps with
 | nil => intro j h; simp at h
 | cons p ps ih =>
  intro j h hlt
  obtain ⟨a, b⟩ := p
  cases j with
  | zero =>
   simp at h
   obtain ⟨rfl, rfl⟩ := h
   simp only [List.set_cons_zero, List.lookup]
   by_cases hx : x = a
   ·
    subst hx; simp
   have : (x == a) = false := by simpa using hx
   simp [this, hx]
  | succ j =>
   have h1 := hlt 0 (by omega) (a, b) rfl
   simp only [List.set_cons_succ, List.lookup]
   have h2 := ih (j := j) (by simpa using h) (fun l hl p hp => hlt (l + 1) (by omega) p (by simpa using hp))
   cases e : x == a with
   | true =>
    have : x ≠ i := by rintro rfl; simp at e; exact h1 e.symm
    simp [this]
   | false => simpa using h2
theorem r_mapUpdate {t kt et b sz : Nat} {k : IntKind} {f : Int → Option Int} {x y z : Operand} {i j : Int} (ht : P.underlying t = some (.map kt et)) (hk : P.underlying kt = some (.int k))
 (hx : OV ρ x (.map (some b))) (hy : OV ρ y (.int .i64 i)) (hz : OV ρ z (.int .i64 j)) :
 RunS P G ρ n (imap b f sz :: R) ⟨none, .mapUpdate t x y z, ty, pos, af, g⟩ (imap b (fun q => if q = i then some j else f q) (if (f i).isSome then sz else sz + 1) :: R) := fun w a hS ha => by
 obtain ⟨es, c, h1, ps, h2, h3, h4⟩ := hS.map (.head _)
 obtain ⟨l, h5, h6⟩ := findNow_int (k := k) (x := i) 0 h2
 cases e : ps.lookup i with
 | none =>
  rw [e] at h5
  refine ⟨_, ?_, hS.setMap (es' := es.push { key := .int .i64 i, val := .int .i64 j, born := c }) (c' := c + 1) ⟨ps ++ [(i, j)], by simp [pairs, h2] , by rw [← h4, e]; simp [h3], fun q => by rw [lookup_append_single e, h4]⟩⟩
  simp [execOp, hx.eval ha, hy.eval ha, hz.eval ha, Instr.mapUpdate, run_underlying ht, run_getObj_map h1, run_checkKey hk, Instr.findKey, run_underlying hk, h5, run_setObj_map h1]
 | some y0 =>
  rw [e] at h5
  obtain ⟨h7, h8, h9⟩ := h6 y0 e
  have hkey : ((es[l]?).map (·.key)) = some (.int .i64 i) := by simpa using h7
  have hlt : l < es.size := by
   rcases Nat.lt_or_ge l es.size with h | h
   ·
    exact h
   rw [Array.getElem?_eq_none h] at hkey; cases hkey
  refine ⟨_, ?_, hS.setMap (es' := es.modify l fun e => { e with key := .int .i64 i, val := .int .i64 j }) (c' := c) ⟨ps.set l (i, j), ?_, by rw [← h4, e]; simp [h3], fun q => by rw [lookup_set h8 h9, h4]⟩⟩
  ·
   have hk2 : ∀ w, (Instr.keyThatStays (.int .i64 i) (.int .i64 i)).run P w = .ok (.int .i64 i) w := fun w => by simp [Instr.keyThatStays, Instr.sameBits]
   simp [execOp, hx.eval ha, hy.eval ha, hz.eval ha, Instr.mapUpdate, run_underlying ht, run_getObj_map h1, run_checkKey hk, Instr.findKey, run_underlying hk, h5, hkey, hk2, run_setObj_map h1]
  apply List.ext_getElem?
  intro q
  have h10 : (es.toList.map (fun e => (e.key, e.val)))[q]? = (pairs ps)[q]? := by rw [h2]
  by_cases hq : q = l
  ·
   subst hq
   have hl2 : q < ps.length := (List.getElem?_eq_some_iff.1 h8).1
   simp [pairs, Array.getElem?_modify, hlt, hl2]
  simp only [pairs, List.getElem?_map, Array.getElem?_toList, Array.getElem?_modify] at h10 ⊢
  rw [if_neg (fun e => hq e.symm), List.getElem?_set_ne (fun e => hq e.symm)]
  exact h10
end
end Go.Eng
namespace Go.Eng
open Go
def lim : IntKind → Nat
 | .i8 => 128 | .i16 => 32768 | .i32 => 2147483648 | .i64 => 9223372036854775808
 | .u8 => 256 | .u16 => 65536 | .u32 => 4294967296 | .u64 => 18446744073709551616
theorem wrap_nat {k : IntKind} {a B : Nat} (hB : lim k = B) (h : a < B) : k.wrap (a : Int) = a := by
 subst hB
 cases k <;> simp [lim, IntKind.wrap, IntKind.signed, IntKind.bits] at * <;> omega
theorem wi {x z : Int} (h : x = z ∧ -9223372036854775808 ≤ z ∧ z ≤ 9223372036854775807) : IntKind.i64.wrap x = z := by
 obtain ⟨rfl, h1, h2⟩ := h
 simp [IntKind.wrap, IntKind.signed, IntKind.bits]
 omega
theorem lim_bits {k : IntKind} {a : Nat} (h : a < lim k) : a < 2 ^ k.bits := by
 cases k <;> simp [lim, IntKind.bits] at * <;> omega
section
variable {P : Program} {G : World} {ρ : Env} {n : Nat} {L : List HProp} {d : Option Tmp} {ty : TypeId} {pos : String} {af : Array Edge} {g : Option (Nat × Bool)} {t u : TypeId} {k kk : IntKind} {x y : Operand} {i j : Int} {B : Nat}
theorem n_add (a b : Nat) (B : Nat) (hx : OV ρ x (.int k i)) (hy : OV ρ y (.int k j)) (ei : i = (a : Int) := by rfl) (ej : j = (b : Int) := by rfl) (h : a + b < B := by omega) (hB : lim k = B := by rfl) : Run P G ρ n L ⟨d, .binOp .add t x y u, ty, pos, af, g⟩ (.int k ((a + b : Nat) : Int)) := by
 subst ei ej
 exact r_add hx hy (by rw [← Int.natCast_add]; exact wrap_nat hB h)
theorem n_sub (a b : Nat) (B : Nat) (hx : OV ρ x (.int k i)) (hy : OV ρ y (.int k j)) (ei : i = (a : Int) := by rfl) (ej : j = (b : Int) := by rfl) (hle : b ≤ a := by omega) (h : a < B := by omega) (hB : lim k = B := by rfl) : Run P G ρ n L ⟨d, .binOp .sub t x y u, ty, pos, af, g⟩ (.int k ((a - b : Nat) : Int)) := by
 subst ei ej
 exact r_sub hx hy (by rw [← Int.natCast_sub hle]; exact wrap_nat hB (by omega))
theorem n_mul (a b : Nat) (B : Nat) (hx : OV ρ x (.int k i)) (hy : OV ρ y (.int k j)) (ei : i = (a : Int) := by rfl) (ej : j = (b : Int) := by rfl) (h : a * b < B := by omega) (hB : lim k = B := by rfl) : Run P G ρ n L ⟨d, .binOp .mul t x y u, ty, pos, af, g⟩ (.int k ((a * b : Nat) : Int)) := by
 subst ei ej
 exact r_mul hx hy (by rw [← Int.natCast_mul]; exact wrap_nat hB h)
theorem n_quo (a b : Nat) (B : Nat) (hx : OV ρ x (.int k i)) (hy : OV ρ y (.int k j)) (ei : i = (a : Int)) (ej : j = (b : Int)) (h0 : b ≠ 0) (h : a < B) (hB : lim k = B := by rfl) : Run P G ρ n L ⟨d, .binOp .quo t x y u, ty, pos, af, g⟩ (.int k ((a / b : Nat) : Int)) := by
 subst ei ej
 exact r_quo hx hy (by omega) (by
  rw [← Int.ofNat_tdiv]
  exact wrap_nat hB (Nat.lt_of_le_of_lt (Nat.div_le_self _ _) h))
theorem n_rem (a b : Nat) (hx : OV ρ x (.int k i)) (hy : OV ρ y (.int k j)) (ei : i = (a : Int)) (ej : j = (b : Int)) (h0 : b ≠ 0) : Run P G ρ n L ⟨d, .binOp .rem t x y u, ty, pos, af, g⟩ (.int k ((a % b : Nat) : Int)) := by
 subst ei ej
 exact r_rem hx hy (by omega) (Int.ofNat_tmod _ _).symm
theorem n_shl (a b : Nat) (B : Nat) (hx : OV ρ x (.int k i)) (hy : OV ρ y (.int kk j)) (ei : i = (a : Int)) (ej : j = (b : Int)) (hb : b ≤ k.bits) (h : a * 2 ^ b < B) (hB : lim k = B := by rfl) : Run P G ρ n L ⟨d, .binOp .shl t x y u, ty, pos, af, g⟩ (.int k ((a * 2 ^ b : Nat) : Int)) := by
 subst ei ej
 exact r_shl hx hy (by omega) (by
  rw [Int.toNat_natCast, Nat.min_eq_left hb]
  have : (a : Int) * 2 ^ b = ((a * 2 ^ b : Nat) : Int) := by push_cast; rfl
  rw [this]
  exact wrap_nat hB h)
theorem n_shr (a b : Nat) (hx : OV ρ x (.int k i)) (hy : OV ρ y (.int kk j)) (ei : i = (a : Int)) (ej : j = (b : Int)) (hb : b ≤ k.bits) : Run P G ρ n L ⟨d, .binOp .shr t x y u, ty, pos, af, g⟩ (.int k ((a / 2 ^ b : Nat) : Int)) := by
 subst ei ej
 exact r_shr hx hy (by omega) (by
  rw [Int.toNat_natCast, Nat.min_eq_left hb]
  have : (2 : Int) ^ b = ((2 ^ b : Nat) : Int) := by push_cast; rfl
  rw [this, Int.ofNat_fdiv])
theorem bv_nat {k : IntKind} {a B : Nat} (hB : lim k = B) (h : a < B) : (BitVec.ofInt k.bits (a : Int)).toNat = a := by
 subst hB
 rw [BitVec.ofInt_natCast, BitVec.toNat_ofNat, Nat.mod_eq_of_lt (lim_bits h)]
theorem lim_pow (k : IntKind) : ∃ m, lim k = 2 ^ m := by cases k <;> first | exact ⟨7, rfl⟩ | exact ⟨15, rfl⟩ | exact ⟨31, rfl⟩ | exact ⟨63, rfl⟩ | exact ⟨8, rfl⟩ | exact ⟨16, rfl⟩ | exact ⟨32, rfl⟩ | exact ⟨64, rfl⟩
theorem n_and (a b : Nat) (B : Nat) (hx : OV ρ x (.int k i)) (hy : OV ρ y (.int k j)) (ei : i = (a : Int)) (ej : j = (b : Int)) (h : a < B) (h' : b < B) (hB : lim k = B := by rfl) : Run P G ρ n L ⟨d, .binOp .and t x y u, ty, pos, af, g⟩ (.int k ((a &&& b : Nat) : Int)) := by
 subst ei ej
 exact r_and hx hy (by
  rw [BitVec.toNat_and, bv_nat hB h, bv_nat hB h']
  exact wrap_nat hB (Nat.lt_of_le_of_lt Nat.and_le_left h))
theorem n_or (a b : Nat) (B : Nat) (hx : OV ρ x (.int k i)) (hy : OV ρ y (.int k j)) (ei : i = (a : Int)) (ej : j = (b : Int)) (h : a < B) (h' : b < B) (hB : lim k = B := by rfl) : Run P G ρ n L ⟨d, .binOp .or t x y u, ty, pos, af, g⟩ (.int k ((a ||| b : Nat) : Int)) := by
 subst ei ej
 exact r_or hx hy (by
  rw [BitVec.toNat_or, bv_nat hB h, bv_nat hB h']
  obtain ⟨m, hm⟩ := lim_pow k
  rw [hm] at hB; subst hB; exact wrap_nat hm (Nat.or_lt_two_pow h h'))
theorem n_xor (a b : Nat) (B : Nat) (hx : OV ρ x (.int k i)) (hy : OV ρ y (.int k j)) (ei : i = (a : Int)) (ej : j = (b : Int)) (h : a < B) (h' : b < B) (hB : lim k = B := by rfl) : Run P G ρ n L ⟨d, .binOp .xor t x y u, ty, pos, af, g⟩ (.int k ((a ^^^ b : Nat) : Int)) := by
 subst ei ej
 exact r_xor hx hy (by
  rw [BitVec.toNat_xor, bv_nat hB h, bv_nat hB h']
  obtain ⟨m, hm⟩ := lim_pow k
  rw [hm] at hB; subst hB; exact wrap_nat hm (Nat.xor_lt_two_pow h h'))
theorem n_conv (a : Nat) (B : Nat) (hs : ∃ y, P.underlying t = some y) (ht : P.underlying u = some (.int k)) (hx : OV ρ x (.int kk i)) (ei : i = (a : Int)) (h : a < B) (hB : lim k = B := by rfl) : Run P G ρ n L ⟨d, .convert t u x, ty, pos, af, g⟩ (.int k (a : Int)) := by
 subst ei
 exact r_conv hs ht hx (wrap_nat hB h)
theorem n_lss (a b : Nat) (hx : OV ρ x (.int k i)) (hy : OV ρ y (.int k j)) (ei : i = (a : Int) := by rfl) (ej : j = (b : Int) := by rfl) : Run P G ρ n L ⟨d, .binOp .lss t x y u, ty, pos, af, g⟩ (.bool (decide (a < b))) := by
 subst ei ej; have := r_lss (P := P) (G := G) (n := n) (L := L) (d := d) (ty := ty) (pos := pos) (af := af) (g := g) (t := t) (u := u) hx hy; simpa using this
theorem n_leq (a b : Nat) (hx : OV ρ x (.int k i)) (hy : OV ρ y (.int k j)) (ei : i = (a : Int) := by rfl) (ej : j = (b : Int) := by rfl) : Run P G ρ n L ⟨d, .binOp .leq t x y u, ty, pos, af, g⟩ (.bool (decide (a ≤ b))) := by
 subst ei ej; have := r_leq (P := P) (G := G) (n := n) (L := L) (d := d) (ty := ty) (pos := pos) (af := af) (g := g) (t := t) (u := u) hx hy; simpa using this
theorem n_gtr (a b : Nat) (hx : OV ρ x (.int k i)) (hy : OV ρ y (.int k j)) (ei : i = (a : Int) := by rfl) (ej : j = (b : Int) := by rfl) : Run P G ρ n L ⟨d, .binOp .gtr t x y u, ty, pos, af, g⟩ (.bool (decide (b < a))) := by
 subst ei ej; have := r_gtr (P := P) (G := G) (n := n) (L := L) (d := d) (ty := ty) (pos := pos) (af := af) (g := g) (t := t) (u := u) hx hy; simpa using this
theorem n_geq (a b : Nat) (hx : OV ρ x (.int k i)) (hy : OV ρ y (.int k j)) (ei : i = (a : Int) := by rfl) (ej : j = (b : Int) := by rfl) : Run P G ρ n L ⟨d, .binOp .geq t x y u, ty, pos, af, g⟩ (.bool (decide (b ≤ a))) := by
 subst ei ej; have := r_geq (P := P) (G := G) (n := n) (L := L) (d := d) (ty := ty) (pos := pos) (af := af) (g := g) (t := t) (u := u) hx hy; simpa using this
theorem n_eql (a b : Nat) (hx : OV ρ x (.int k i)) (hy : OV ρ y (.int k j)) (ei : i = (a : Int) := by rfl) (ej : j = (b : Int) := by rfl) : Run P G ρ n L ⟨d, .binOp .eql t x y u, ty, pos, af, g⟩ (.bool (decide (a = b))) := by
 subst ei ej; have := r_eql (P := P) (G := G) (n := n) (L := L) (d := d) (ty := ty) (pos := pos) (af := af) (g := g) (t := t) (u := u) hx hy
 rw [show decide (a = b) = decide ((a : Int) = (b : Int)) from decide_eq_decide.2 (by omega)]; exact this
theorem n_neq (a b : Nat) (hx : OV ρ x (.int k i)) (hy : OV ρ y (.int k j)) (ei : i = (a : Int) := by rfl) (ej : j = (b : Int) := by rfl) : Run P G ρ n L ⟨d, .binOp .neq t x y u, ty, pos, af, g⟩ (.bool (decide (¬ a = b))) := by
 subst ei ej; have := r_neq (P := P) (G := G) (n := n) (L := L) (d := d) (ty := ty) (pos := pos) (af := af) (g := g) (t := t) (u := u) hx hy
 rw [show decide (¬ a = b) = decide (¬ (a : Int) = (b : Int)) from decide_eq_decide.2 (by omega)]; exact this
theorem n_min (a b : Nat) {tt : Array TypeId} (hx : OV ρ x (.int k i)) (hy : OV ρ y (.int k j)) (ei : i = (a : Int)) (ej : j = (b : Int)) : Run P G ρ n L ⟨d, .call ⟨.builtin .min, #[x, y], tt⟩, ty, pos, af, g⟩ (.int k ((min a b : Nat) : Int)) := by
 subst ei ej
 have := r_min (P := P) (G := G) (n := n) (L := L) (d := d) (ty := ty) (pos := pos) (af := af) (g := g) (t := tt) hx hy
 rw [show (((min a b : Nat)) : Int) = if (b : Int) < (a : Int) then (b : Int) else (a : Int) by split <;> omega]; exact this
end
end Go.Eng
namespace Go.Eng
open Go
def lst (l : List Value) (i : Nat) : Value := l.getD i undef
theorem lst_ok {l : List Value} : ∀ i, i < l.length → l.toArray[i]? = some (lst l i) := fun i hi => by simp [lst, List.getD, hi]
theorem lst_set {l : List Value} {i : Nat} {v : Value} (hi : Nat.blt i l.length = true) : upd (lst l) i v = lst (l.set i v) := by
 have hi : i < l.length := by simpa [Nat.blt_eq] using hi
 funext j
 unfold upd lst
 by_cases h : j = i
 ·
  subst h; simp [List.getD, hi]
 rw [if_neg h]; simp [List.getD, List.getElem?_set_ne (fun e => h e.symm)]
theorem lst_get {l : List Value} {i : Nat} {v : Value} (h : l[i]? = some v) : lst l i = v := by simp [lst, List.getD, h]
theorem blk_congr {b m : Nat} {F F' : Nat → Value} (h : ∀ i, i < m → F i = F' i) : ∀ p, blk b m F p → blk b m F' p := fun _ ⟨cs, T, h1, h2, h3⟩ => ⟨cs, T, h1, h2, fun i hi => (h3 i hi).trans (congrArg some (h i hi))⟩
theorem SatL.at {A A' : HProp} {L L' : List HProp} (hz : At A A' L L') (e : ∀ m, A m → A' m) : ∀ {h : PH}, SatL h L → SatL h L' := by
 induction hz with
 | here => exact SatL.imp e
 | there _ ih => exact fun ⟨m, h1, h2, h3⟩ => ⟨m, h1, h2, ih h3⟩
theorem Sat.at {G w : World} {A A' : HProp} {L L' : List HProp} (hz : At A A' L L') (e : ∀ m, A m → A' m) (h : Sat G w L) : Sat G w L' := { h with sat := SatL.at hz e h.sat }
section
variable {P : Program} {G : World} {ρ ρ' : Env} {n : Nat} {L L' R : List HProp} {d : Option Tmp} {ty : TypeId} {pos : String} {af : Array Edge} {g : Option (Nat × Bool)} {v : Value} {Q : Exit → Act → World → Prop} {ops : Array Oper} {rest tl : List Oper}
theorem r_st {t b off m : Nat} {F F' : Nat → Value} {x y : Operand} (hs : ∀ w, (sizeOf t).run P w = .ok 1 w) (he : upd F off v = F') (hz : At (blk b m F) (blk b m F') L L') (h : OV ρ x (.pointer (some ⟨b, off, none⟩))) (hy : OV ρ y v) (hi : off < m)
 (hv : one v = true := by rfl) : RunS P G ρ n L ⟨none, .store t x y, ty, pos, af, g⟩ L' := by subst he; exact r_stc hs hz h hy hi hv
theorem r_stl {t b off m : Nat} {l l' : List Value} {x y : Operand} (hs : ∀ w, (sizeOf t).run P w = .ok 1 w) (hz : At (blk b m (lst l)) (blk b m (lst l')) L L') (h : OV ρ x (.pointer (some ⟨b, off, none⟩))) (hy : OV ρ y v) (hi : off < m)
 (hl : Nat.blt off l.length = true := by rfl) (he : l.set off v = l' := by rfl) (hv : one v = true := by rfl) : RunS P G ρ n L ⟨none, .store t x y, ty, pos, af, g⟩ L' :=
 r_st hs (by rw [lst_set hl, he]) hz h hy hi hv
theorem CT.fold {c : Code} {A A' : HProp} (hz : At A A' L L') (e : ∀ m, A m → A' m) (k : CT P c Q ρ n G L') : CT P c Q ρ n G L := fun w a hS ha => k w a (hS.at hz e) ha
theorem TL.fold {A A' : HProp} (hz : At A A' L L') (e : ∀ m, A m → A' m) (k : TL P Q ops rest ρ n G L') : TL P Q ops rest ρ n G L := fun w a hS ha => k w a (hS.at hz e) ha
theorem EX.fold {x : Exit} {A A' : HProp} (hz : At A A' L L') (e : ∀ m, A m → A' m) (k : EX Q x ρ n G L') : EX Q x ρ n G L := fun w a hS ha => k w a (hS.at hz e) ha
theorem CT.conv {c : Code} (e : ∀ w, Sat G w L → Sat G w L') (k : CT P c Q ρ n G L') : CT P c Q ρ n G L := fun w a hS ha => k w a (e w hS) ha
theorem TL.conv (e : ∀ w, Sat G w L → Sat G w L') (k : TL P Q ops rest ρ n G L') : TL P Q ops rest ρ n G L := fun w a hS ha => k w a (e w hS) ha
theorem EX.conv {x : Exit} (e : ∀ w, Sat G w L → Sat G w L') (k : EX Q x ρ n G L') : EX Q x ρ n G L := fun w a hS ha => k w a (e w hS) ha
theorem CT.expose {c : Code} {p : Prop} (e : ∀ w, Sat G w L → p) (k : p → CT P c Q ρ n G L) : CT P c Q ρ n G L := fun w a hS ha => k (e w hS) w a hS ha
theorem TL.expose {p : Prop} (e : ∀ w, Sat G w L → p) (k : p → TL P Q ops rest ρ n G L) : TL P Q ops rest ρ n G L := fun w a hS ha => k (e w hS) w a hS ha
theorem TL.ex {α : Type} {A : α → List HProp} (e : ∀ w, Sat G w L → ∃ x, Sat G w (A x)) (k : ∀ x, TL P Q ops rest ρ n G (A x)) : TL P Q ops rest ρ n G L := fun w a hS ha => let ⟨x, hx⟩ := e w hS; k x w a hx ha
theorem TS.sub (s : Sub ρ' ρ) (k : TS P Q ops tl rest ρ' n G L) : TS P Q ops tl rest ρ n G L := fun w a hS ha => k w a hS (ha.sub s)
theorem TS.rm {d : Nat} (s : Rm d ρ ρ') (k : TS P Q ops tl rest ρ' n G L) : TS P Q ops tl rest ρ n G L := TS.sub s.sub k
theorem TL.bool {b : Bool} (k1 : b = true → TL P Q ops rest ρ n G L) (k2 : b = false → TL P Q ops rest ρ n G L) : TL P Q ops rest ρ n G L := by
 cases b
 ·
  exact k2 rfl
 exact k1 rfl
theorem TS.by {p : Prop} (h : Decidable p) (k1 : p → TS P Q ops tl rest ρ n G L) (k2 : ¬ p → TS P Q ops tl rest ρ n G L) : TS P Q ops tl rest ρ n G L := by
 by_cases hp : p
 ·
  exact k1 hp
 exact k2 hp
theorem r_nott {t : TypeId} {x : Operand} (hx : OV ρ x (.bool true)) : Run P G ρ n L ⟨d, .unOp .not t x, ty, pos, af, g⟩ (.bool false) := r_not hx
theorem r_notf {t : TypeId} {x : Operand} (hx : OV ρ x (.bool false)) : Run P G ρ n L ⟨d, .unOp .not t x, ty, pos, af, g⟩ (.bool true) := r_not hx
theorem ev_const (a : Act) (v : Value) : a.eval (.const v) = v := rfl
theorem equal_nil_iface {t : TypeId} {ms : Array (String × TypeId)} (ht : P.underlying t = some (.interface ms)) (w : World) : (Op.equal t .nilIface .nilIface).run P w = .ok true w := by
 have (d : Nat) : (Op.equalIn (d + 1) t .nilIface .nilIface).run P w = .ok true w := by simp [Op.equalIn, run_underlying ht]
 exact this 9999
theorem equal_iface_nil {t s : TypeId} {u : Value} {ms : Array (String × TypeId)} (ht : P.underlying t = some (.interface ms)) (w : World) : (Op.equal t (.iface s u) .nilIface).run P w = .ok false w := by
 have (d : Nat) : (Op.equalIn (d + 1) t (.iface s u) .nilIface).run P w = .ok false w := by simp [Op.equalIn, run_underlying ht]
 exact this 9999
theorem equal_ptr_nil {t e : TypeId} {p : Option Addr} (ht : P.underlying t = some (.pointer e)) (w : World) : (Op.equal t (.pointer p) (.pointer none)).run P w = .ok p.isNone w := by
 have (d : Nat) : (Op.equalIn (d + 1) t (.pointer p) (.pointer none)).run P w = .ok p.isNone w := by cases p <;> simp [Op.equalIn, run_underlying ht]
 exact this 9999
theorem r_nei {t s u : TypeId} {x : Operand} {y : Value} {ms : Array (String × TypeId)} (ht : P.underlying t = some (.interface ms)) (hx : OV ρ x (.iface s y)) : Run P G ρ n L ⟨d, .binOp .neq t x (.const .nilIface) u, ty, pos, af, g⟩ (.bool true) := fun w a _ ha => by
 simp [execOp, hx.eval ha, ev_const, eqGuard, binOp, equal_iface_nil ht]
theorem r_nen {t u : TypeId} {x : Operand} {ms : Array (String × TypeId)} (ht : P.underlying t = some (.interface ms)) (hx : OV ρ x .nilIface) : Run P G ρ n L ⟨d, .binOp .neq t x (.const .nilIface) u, ty, pos, af, g⟩ (.bool false) := fun w a _ ha => by
 simp [execOp, hx.eval ha, ev_const, eqGuard, binOp, equal_nil_iface ht]
theorem r_eqi {t s u : TypeId} {x : Operand} {y : Value} {ms : Array (String × TypeId)} (ht : P.underlying t = some (.interface ms)) (hx : OV ρ x (.iface s y)) : Run P G ρ n L ⟨d, .binOp .eql t x (.const .nilIface) u, ty, pos, af, g⟩ (.bool false) := fun w a _ ha => by
 simp [execOp, hx.eval ha, ev_const, eqGuard, binOp, equal_iface_nil ht]
theorem r_eqn {t u : TypeId} {x : Operand} {ms : Array (String × TypeId)} (ht : P.underlying t = some (.interface ms)) (hx : OV ρ x .nilIface) : Run P G ρ n L ⟨d, .binOp .eql t x (.const .nilIface) u, ty, pos, af, g⟩ (.bool true) := fun w a _ ha => by
 simp [execOp, hx.eval ha, ev_const, eqGuard, binOp, equal_nil_iface ht]
theorem r_eqpn {t u e : TypeId} {x : Operand} (ht : P.underlying t = some (.pointer e)) (hx : OV ρ x (.pointer none)) : Run P G ρ n L ⟨d, .binOp .eql t x (.const (.pointer none)) u, ty, pos, af, g⟩ (.bool true) := fun w a _ ha => by
 simp [execOp, hx.eval ha, ev_const, eqGuard, binOp, equal_ptr_nil ht]
theorem r_eqps {t u e : TypeId} {x : Operand} {p : Addr} (ht : P.underlying t = some (.pointer e)) (hx : OV ρ x (.pointer (some p))) : Run P G ρ n L ⟨d, .binOp .eql t x (.const (.pointer none)) u, ty, pos, af, g⟩ (.bool false) := fun w a _ ha => by
 simp [execOp, hx.eval ha, ev_const, eqGuard, binOp, equal_ptr_nil ht]
theorem ones1 {a : Value} (ha : one a = true := by rfl) : ∀ x ∈ [a], one x = true := fun x hx => by
 rcases List.mem_cons.1 hx with rfl | h
 ·
  exact ha
 cases h
theorem ones2 {a b : Value} (ha : one a = true := by rfl) (hb : one b = true := by rfl) : ∀ x ∈ [a, b], one x = true := fun x hx => by
 rcases List.mem_cons.1 hx with rfl | h
 ·
  exact ha
 exact ones1 hb x h
theorem ones3 {a b c : Value} (ha : one a = true := by rfl) (hb : one b = true := by rfl) (hc : one c = true := by rfl) : ∀ x ∈ [a, b, c], one x = true := fun x hx => by
 rcases List.mem_cons.1 hx with rfl | h
 ·
  exact ha
 exact ones2 hb hc x h
theorem ones_map {α : Type} {f : α → Value} {l : List α} (h : ∀ a, one (f a) = true) : ∀ x ∈ l.map f, one x = true := fun x hx => by
 obtain ⟨a, _, rfl⟩ := List.mem_map.1 hx
 exact h a
def setl (l : List Value) (off : Nat) : List Value → List Value
 | [] => l
 | v :: vs => setl (l.set off v) (off + 1) vs
theorem updl_lst : ∀ {vs l : List Value} {off : Nat}, off + vs.length ≤ l.length → updl (lst l) off vs = lst (setl l off vs) := by
 intro vs
 induction vs with
 | nil => intro l off _; rfl
 | cons v vs ih =>
  intro l off h
  simp only [List.length_cons] at h
  show updl (upd (lst l) off v) (off + 1) vs = lst (setl (l.set off v) (off + 1) vs)
  rw [lst_set (by rw [Nat.blt_eq]; omega), ih (by simp; omega)]
theorem r_stagl {t b off m s : Nat} {l l' : List Value} {x y : Operand} {cs : List Value} (hs : ∀ w, (sizeOf t).run P w = .ok s w) (h : OV ρ x (.pointer (some ⟨b, off, none⟩))) (hy : OV ρ y (.agg cs.toArray)) (hl : cs.length = s) (hi : off + s ≤ m)
 (hone : ∀ x ∈ cs, one x = true) (hb : Nat.ble (off + cs.length) l.length = true := by rfl) (he : setl l off cs = l' := by rfl) : RunS P G ρ n (blk b m (lst l) :: R) ⟨none, .store t x y, ty, pos, af, g⟩ (blk b m (lst l') :: R) := by
 rw [← he, ← updl_lst (Nat.le_of_ble_eq_true hb)]
 exact r_stagg hs h hy hl hi hone
theorem Sat.slc_one {w : World} {s k : Nat} {cs : List Value} (h : Sat G w (Eng.slc s v k cs :: L)) : one v = true := by
 obtain ⟨_, ⟨rfl, _⟩ | ⟨b, c, F, rfl, _⟩⟩ := h.slc <;> rfl
theorem EX.scope_ret {J : Nat → Act → World → Prop} (k : EX Q .ret ρ n G L) : EX (Jumps J Q) .ret ρ n G L := fun w a hS ha => k w a hS ha
end
end Go.Eng
namespace Go.Eng
open Go
def NP (Q : Exit → Act → World → Prop) : Prop := ∀ c a w, ¬ Q (.panic c) a w
theorem NP.body {P : Program} {fn : Func} {R : Value → World → Prop} : NP (bodyPost P fn (Ret R)) := fun _ _ _ h => h.2
theorem NP.then_ {Q : Exit → Act → World → Prop} {K : Act → World → Prop} (h : NP Q) : NP (Exit.then K Q) := fun c a w hq => h c a w hq
theorem NP.inBlock {Q : Exit → Act → World → Prop} {i : Nat} (h : NP Q) : NP (Exit.inBlock i Q) := fun c a w hq => h c a w hq
theorem NP.jumps {Q : Exit → Act → World → Prop} {J : Nat → Act → World → Prop} (h : NP Q) : NP (Jumps J Q) := fun c a w hq => h c a w hq
def TA (P : Program) (Q : Exit → Act → World → Prop) (ops : Array Oper) (fuel : Nat) (listed : Array Bool) (ρ : Env) (n : Nat) (G : World) (L : List HProp) : Prop :=
 ∀ w a, Sat G w L → Ok ρ n a → wpAny P .any ops Q fuel listed a w
def TB (P : Program) (Q : Exit → Act → World → Prop) (ops : Array Oper) (fuel : Nat) (listed : Array Bool) (ρ : Env) (n : Nat) (w : World) : Prop := ∀ a, Ok ρ n a → wpAny P .any ops Q fuel listed a w
def TO (P : Program) (Q : Exit → Act → World → Prop) (ops : Array Oper) (fuel : Nat) (listed : Array Bool) (i : Nat) (ρ : Env) (n : Nat) (G : World) (L : List HProp) : Prop :=
 ∀ w a, Sat G w L → Ok ρ n a → wpOp P ops Q i (wpAny P .any ops Q fuel (listed.setIfInBounds i true)) a w
section
variable {P : Program} {G : World} {ρ ρ' : Env} {n : Nat} {L L' : List HProp} {Q : Exit → Act → World → Prop} {ops : Array Oper} {fuel : Nat} {listed : Array Bool}
 {d : Nat} {op : Op} {ty : TypeId} {pos : String} {af : Array Edge} {v : Value}
theorem CT.any {id : Nat} (hm : P.follows .mixedOrders = true) (k : TA P Q ops ops.size (Array.replicate ops.size false) ρ n G L) : CT P (.region id ops true) Q ρ n G L :=
 fun w a hS ha => wp_region_any hm (k _ a (hS.drew _) ha)
theorem TA.take (i : Nat) (hi : ops[i]? = some ⟨some d, op, ty, pos, af, none⟩) (hs : Region.noSelect ops = true) (hf : Region.free .any ops listed i = true) (hr : (Region.ready .any ops listed).contains i = true) (hQ : NP Q)
 (hrun : ∀ G L, Run P G ρ n L ⟨some d, op, ty, pos, af, none⟩ v) (k : TA P Q ops fuel (listed.setIfInBounds i true) ((d, v) :: ρ) n G L) (hc : chk d n ρ = true := by rfl) : TA P Q ops (fuel + 1) listed ρ n G L :=
 fun w a hS ha => wpAny_take hi hs hf hr (fun c a w h => (hQ c _ w h).elim) (.inl ⟨rfl, fun w' => hrun w' [] w' a (Sat.begin w') ha⟩) (k w _ hS (ha.put hc))
theorem TA.takeg {j g : Nat} {b : Bool} (i : Nat) (hi : ops[i]? = some ⟨some d, op, ty, pos, af, some (j, b)⟩) (hs : Region.noSelect ops = true) (hf : Region.free .any ops listed i = true) (hr : (Region.ready .any ops listed).contains i = true) (hQ : NP Q)
 (hb : (g, .bool b) ∈ ρ) (hrun : ∀ G L, Run P G ρ n L ⟨some d, op, ty, pos, af, some (j, b)⟩ v) (k : TA P Q ops fuel (listed.setIfInBounds i true) ((d, v) :: ρ) n G L) (hj : (ops[j]?).bind (·.dst) = some g) (hc : chk d n ρ = true := by rfl) : TA P Q ops (fuel + 1) listed ρ n G L :=
 fun w a hS ha => wpAny_take hi hs hf hr (fun c a w h => (hQ c _ w h).elim) (.inl ⟨by rw [wanted_of hj hb ha]; simp, fun w' => hrun w' [] w' a (Sat.begin w') ha⟩) (k w _ hS (ha.put hc))
theorem TA.one (i : Nat) (hr : Region.ready .any ops listed = [i]) (k : TO P Q ops fuel listed i ρ n G L) : TA P Q ops (fuel + 1) listed ρ n G L :=
 fun w a hS ha => wpAny_all hr (by simp) fun j hj => by
  rw [List.mem_singleton] at hj; subst hj; exact k w a hS ha
theorem TA.two (i j : Nat) (hr : Region.ready .any ops listed = [i, j]) (k : TO P Q ops fuel listed i ρ n G L) (k2 : TO P Q ops fuel listed j ρ n G L) : TA P Q ops (fuel + 1) listed ρ n G L :=
 fun w a hS ha => wpAny_all hr (by simp) fun q hq => by
  rcases List.mem_cons.1 hq with h | h
  ·
   subst h; exact k w a hS ha
  rw [List.mem_singleton] at h; subst h; exact k2 w a hS ha
theorem TA.done (hr : Region.ready .any ops listed = []) (k : EX Q .normal ρ n G L) : TA P Q ops fuel listed ρ n G L := fun w a hS ha => wpAny_done hr (k w a hS ha) fuel
theorem TA.perm (p : L.Perm L') (k : TA P Q ops fuel listed ρ n G L') : TA P Q ops fuel listed ρ n G L := fun w a hS ha => k w a (hS.perm p) ha
theorem TA.sub (s : Sub ρ' ρ) (k : TA P Q ops fuel listed ρ' n G L) : TA P Q ops fuel listed ρ n G L := fun w a hS ha => k w a hS (ha.sub s)
theorem TO.perm {i : Nat} (p : L.Perm L') (k : TO P Q ops fuel listed i ρ n G L') : TO P Q ops fuel listed i ρ n G L := fun w a hS ha => k w a (hS.perm p) ha
theorem TB.at {w : World} (hS : Sat G w L) (k : TA P Q ops fuel listed ρ n G L) : TB P Q ops fuel listed ρ n w := fun a ha => k w a hS ha
theorem TO.val {i : Nat} (hi : ops[i]? = some ⟨some d, op, ty, pos, af, none⟩) (hr : Run P G ρ n L ⟨some d, op, ty, pos, af, none⟩ v) (k : TA P Q ops fuel (listed.setIfInBounds i true) ((d, v) :: ρ) n G L) (hc : chk d n ρ = true := by rfl) :
 TO P Q ops fuel listed i ρ n G L := fun w a hS ha => by
 unfold wpOp
 simp only [hi, Region.wanted, if_true]
 refine .inl ?_
 unfold Oper.wp
 rw [hr w a hS ha, Oper.upon_value]
 exact k w _ hS (ha.put hc)
theorem TO.s {i : Nat} (hi : ops[i]? = some ⟨none, op, ty, pos, af, none⟩) (hr : RunS P G ρ n L ⟨none, op, ty, pos, af, none⟩ L') (k : TA P Q ops fuel (listed.setIfInBounds i true) ρ n G L') :
 TO P Q ops fuel listed i ρ n G L := fun w a hS ha => by
 unfold wpOp
 simp only [hi, Region.wanted, if_true]
 refine .inl ?_
 unfold Oper.wp
 obtain ⟨w', e, hS'⟩ := hr w a hS ha
 rw [e, Oper.upon_skip]
 exact k w' _ hS' ha
theorem TO.w {i : Nat} {K : Value → World → Prop} (hi : ops[i]? = some ⟨some d, op, ty, pos, af, none⟩) (hr : RunW P G ρ n L ⟨some d, op, ty, pos, af, none⟩ K) (k : ∀ v w, K v w → TB P Q ops fuel (listed.setIfInBounds i true) ((d, v) :: ρ) n w)
 (hc : chk d n ρ = true := by rfl) : TO P Q ops fuel listed i ρ n G L := fun w a hS ha => by
 unfold wpOp
 simp only [hi, Region.wanted, if_true]
 refine .inl ?_
 unfold Oper.wp
 obtain ⟨v, w', e, hk⟩ := hr w a hS ha
 rw [e, Oper.upon_value]
 exact k v w' hk _ (ha.put hc)
theorem TO.call {i : Nat} {f : FuncId} {args : Array Value} {R : Value → World → Prop} (hi : ops[i]? = some ⟨some d, op, ty, pos, af, none⟩) (hr : RunC P G ρ n L ⟨some d, op, ty, pos, af, none⟩ f args)
 (hcc : ∀ w, Sat G w L → CallsR P f args w R) (k : ∀ v w, R v w → TB P Q ops fuel (listed.setIfInBounds i true) ((d, v) :: ρ) n w) (hc : chk d n ρ = true := by rfl) : TO P Q ops fuel listed i ρ n G L := fun w a hS ha => by
 unfold wpOp
 simp only [hi, Region.wanted, if_true]
 refine .inl ?_
 unfold Oper.wp
 rw [hr w a hS ha, Oper.upon_enter]
 refine Calls.mono (hcc w hS) fun e w' he => ?_
 cases e with
 | returned v => exact k v w' he _ (ha.put hc)
 | panicked _ => exact he.elim
 | outgrown => exact he.elim
theorem TO.gcall {i j g : Nat} {b : Bool} {f : FuncId} {args : Array Value} {R : Value → World → Prop} (hi : ops[i]? = some ⟨some d, op, ty, pos, af, some (j, b)⟩) (hb : (g, .bool b) ∈ ρ) (hr : RunC P G ρ n L ⟨some d, op, ty, pos, af, some (j, b)⟩ f args)
 (hcc : ∀ w, Sat G w L → CallsR P f args w R) (k : ∀ v w, R v w → TB P Q ops fuel (listed.setIfInBounds i true) ((d, v) :: ρ) n w) (hj : (ops[j]?).bind (·.dst) = some g) (hc : chk d n ρ = true := by rfl) : TO P Q ops fuel listed i ρ n G L := fun w a hS ha => by
 unfold wpOp
 simp only [hi]
 rw [wanted_of hj hb ha, beq_self_eq_true, if_pos rfl]
 refine .inl ?_
 unfold Oper.wp
 rw [hr w a hS ha, Oper.upon_enter]
 refine Calls.mono (hcc w hS) fun e w' he => ?_
 cases e with
 | returned v => exact k v w' he _ (ha.put hc)
 | panicked _ => exact he.elim
 | outgrown => exact he.elim
theorem TO.gval {i j g : Nat} {b : Bool} (hi : ops[i]? = some ⟨some d, op, ty, pos, af, some (j, b)⟩) (hb : (g, .bool b) ∈ ρ) (hr : Run P G ρ n L ⟨some d, op, ty, pos, af, some (j, b)⟩ v) (k : TA P Q ops fuel (listed.setIfInBounds i true) ((d, v) :: ρ) n G L)
 (hj : (ops[j]?).bind (·.dst) = some g) (hc : chk d n ρ = true := by rfl) : TO P Q ops fuel listed i ρ n G L := fun w a hS ha => by
 unfold wpOp
 simp only [hi]
 rw [wanted_of hj hb ha, beq_self_eq_true, if_pos rfl]
 refine .inl ?_
 unfold Oper.wp
 rw [hr w a hS ha, Oper.upon_value]
 exact k w _ hS (ha.put hc)
theorem TO.gn {i j g : Nat} {b want : Bool} (hi : ops[i]? = some ⟨some d, op, ty, pos, af, some (j, want)⟩) (hb : (g, .bool b) ∈ ρ) (hw : (b == want) = false) (k : TA P Q ops fuel (listed.setIfInBounds i true) ρ n G L)
 (hj : (ops[j]?).bind (·.dst) = some g) (hc : ρ.all (fun x => !(Nat.beq x.1 d)) = true := by rfl) : TO P Q ops fuel listed i ρ n G L := fun w a hS ha => by
 unfold wpOp
 simp only [hi]
 rw [wanted_of hj hb ha, hw, if_neg (by simp)]
 exact k w _ hS (ha.forget hc)
end
end Go.Eng
namespace Go.Eng
open Go
section
variable {P : Program} {G : World} {ρ : Env} {n : Nat} {L LS : List HProp} {Q : Exit → Act → World → Prop} {ops : Array Oper} {fuel : Nat} {listed : Array Bool}
 {d : Nat} {op : Op} {ty : TypeId} {pos : String} {af : Array Edge} {v : Value}
theorem TA.t (i : Nat) (hi : ops[i]? = some ⟨some d, op, ty, pos, af, none⟩) (hrun : ∀ G L, Run P G ρ n L ⟨some d, op, ty, pos, af, none⟩ v) (k : TA P Q ops fuel (listed.setIfInBounds i true) ((d, v) :: ρ) n G L) (hs : Region.noSelect ops = true := by kernel_rfl) (hf : Region.free .any ops listed i = true := by kernel_rfl) (hr : (Region.ready .any ops listed).contains i = true := by kernel_rfl) (hQ : NP Q := by repeat (with_reducible first | exact NP.body | apply NP.then_ | apply NP.inBlock | apply NP.jumps)) (hc : chk d n ρ = true := by rfl) : TA P Q ops (fuel + 1) listed ρ n G L := TA.take i hi hs hf hr hQ hrun k hc
theorem TA.g {j g : Nat} {b : Bool} (i : Nat) (hi : ops[i]? = some ⟨some d, op, ty, pos, af, some (j, b)⟩) (hb : (g, .bool b) ∈ ρ) (hrun : ∀ G L, Run P G ρ n L ⟨some d, op, ty, pos, af, some (j, b)⟩ v) (k : TA P Q ops fuel (listed.setIfInBounds i true) ((d, v) :: ρ) n G L) (hj : (ops[j]?).bind (·.dst) = some g) (hs : Region.noSelect ops = true := by kernel_rfl) (hf : Region.free .any ops listed i = true := by kernel_rfl) (hr : (Region.ready .any ops listed).contains i = true := by kernel_rfl) (hQ : NP Q := by repeat (with_reducible first | exact NP.body | apply NP.then_ | apply NP.inBlock | apply NP.jumps)) (hc : chk d n ρ = true := by rfl) : TA P Q ops (fuel + 1) listed ρ n G L := TA.takeg i hi hs hf hr hQ hb hrun k hj hc
end
end Go.Eng
namespace Go.Eng
open Go Go.Proofs
theorem fm : Tryz.prog.follows .mixedOrders = true := by kernel_rfl
theorem fo_39_0 : FO Tryz.prog 39 0 0 := ⟨_, _, _, Tryz.underlying39, rfl, rfl, Tryz.sizeOf22, by decide⟩
theorem fo_39_1 : FO Tryz.prog 39 1 1 := ⟨_, _, _, Tryz.underlying39, rfl, rfl, Tryz.sizeOf3, by decide⟩
theorem fo_56_0 : FO Tryz.prog 56 0 0 := ⟨_, _, _, Tryz.underlying56, rfl, rfl, Tryz.sizeOf22, by decide⟩
theorem fo_56_1 : FO Tryz.prog 56 1 1 := ⟨_, _, _, Tryz.underlying56, rfl, rfl, Tryz.sizeOf3, by decide⟩
theorem fo_56_2 : FO Tryz.prog 56 2 2 := ⟨_, _, _, Tryz.underlying56, rfl, rfl, Tryz.sizeOf22, by decide⟩
theorem fo_56_3 : FO Tryz.prog 56 3 3 := ⟨_, _, _, Tryz.underlying56, rfl, rfl, Tryz.sizeOf22, by decide⟩
theorem fo_56_4 : FO Tryz.prog 56 4 4 := ⟨_, _, _, Tryz.underlying56, rfl, rfl, Tryz.sizeOf3, by decide⟩
theorem fo_65_0 : FO Tryz.prog 65 0 0 := ⟨_, _, _, Tryz.underlying65, rfl, rfl, Tryz.sizeOf5, by decide⟩
theorem fo_65_1 : FO Tryz.prog 65 1 1 := ⟨_, _, _, Tryz.underlying65, rfl, rfl, Tryz.sizeOf3, by decide⟩
theorem fo_65_2 : FO Tryz.prog 65 2 2 := ⟨_, _, _, Tryz.underlying65, rfl, rfl, Tryz.sizeOf3, by decide⟩
theorem fo_78_0 : FO Tryz.prog 78 0 0 := ⟨_, _, _, Tryz.underlying78, rfl, rfl, Tryz.sizeOf22, by decide⟩
theorem fo_78_1 : FO Tryz.prog 78 1 1 := ⟨_, _, _, Tryz.underlying78, rfl, rfl, Tryz.sizeOf3, by decide⟩
theorem fo_94_0 : FO Tryz.prog 94 0 0 := ⟨_, _, _, Tryz.underlying94, rfl, rfl, Tryz.sizeOf3, by decide⟩
theorem fo_94_1 : FO Tryz.prog 94 1 1 := ⟨_, _, _, Tryz.underlying94, rfl, rfl, Tryz.sizeOf91, by decide⟩
theorem fo_94_2 : FO Tryz.prog 94 2 513 := ⟨_, _, _, Tryz.underlying94, rfl, rfl, Tryz.sizeOf92, by decide⟩
theorem fo_94_3 : FO Tryz.prog 94 3 514 := ⟨_, _, _, Tryz.underlying94, rfl, rfl, Tryz.sizeOf89, by decide⟩
theorem fo_98_0 : FO Tryz.prog 98 0 0 := ⟨_, _, _, Tryz.underlying98, rfl, rfl, Tryz.sizeOf22, by decide⟩
theorem fo_98_1 : FO Tryz.prog 98 1 1 := ⟨_, _, _, Tryz.underlying98, rfl, rfl, Tryz.sizeOf3, by decide⟩
theorem fo_98_2 : FO Tryz.prog 98 2 2 := ⟨_, _, _, Tryz.underlying98, rfl, rfl, Tryz.sizeOf3, by decide⟩
theorem fo_98_3 : FO Tryz.prog 98 3 3 := ⟨_, _, _, Tryz.underlying98, rfl, rfl, Tryz.sizeOf4, by decide⟩
theorem fo_103_0 : FO Tryz.prog 103 0 0 := ⟨_, _, _, Tryz.underlying103, rfl, rfl, Tryz.sizeOf87, by decide⟩
theorem fo_103_1 : FO Tryz.prog 103 1 1 := ⟨_, _, _, Tryz.underlying103, rfl, rfl, Tryz.sizeOf88, by decide⟩
theorem fo_103_2 : FO Tryz.prog 103 2 2 := ⟨_, _, _, Tryz.underlying103, rfl, rfl, Tryz.sizeOf2, by decide⟩
theorem fo_103_3 : FO Tryz.prog 103 3 3 := ⟨_, _, _, Tryz.underlying103, rfl, rfl, Tryz.sizeOf89, by decide⟩
theorem fo_103_4 : FO Tryz.prog 103 4 4 := ⟨_, _, _, Tryz.underlying103, rfl, rfl, Tryz.sizeOf90, by decide⟩
theorem fo_103_5 : FO Tryz.prog 103 5 5 := ⟨_, _, _, Tryz.underlying103, rfl, rfl, Tryz.sizeOf94, by decide⟩
theorem fo_103_6 : FO Tryz.prog 103 6 520 := ⟨_, _, _, Tryz.underlying103, rfl, rfl, Tryz.sizeOf94, by decide⟩
theorem fo_103_7 : FO Tryz.prog 103 7 1035 := ⟨_, _, _, Tryz.underlying103, rfl, rfl, Tryz.sizeOf95, by decide⟩
theorem fo_103_8 : FO Tryz.prog 103 8 1036 := ⟨_, _, _, Tryz.underlying103, rfl, rfl, Tryz.sizeOf96, by decide⟩
theorem fo_103_9 : FO Tryz.prog 103 9 1037 := ⟨_, _, _, Tryz.underlying103, rfl, rfl, Tryz.sizeOf98, by decide⟩
theorem fo_103_10 : FO Tryz.prog 103 10 1041 := ⟨_, _, _, Tryz.underlying103, rfl, rfl, Tryz.sizeOf99, by decide⟩
theorem fo_103_11 : FO Tryz.prog 103 11 1045 := ⟨_, _, _, Tryz.underlying103, rfl, rfl, Tryz.sizeOf100, by decide⟩
theorem fo_103_12 : FO Tryz.prog 103 12 1046 := ⟨_, _, _, Tryz.underlying103, rfl, rfl, Tryz.sizeOf3, by decide⟩
theorem fo_103_13 : FO Tryz.prog 103 13 1047 := ⟨_, _, _, Tryz.underlying103, rfl, rfl, Tryz.sizeOf4, by decide⟩
theorem fo_103_14 : FO Tryz.prog 103 14 1048 := ⟨_, _, _, Tryz.underlying103, rfl, rfl, Tryz.sizeOf82, by decide⟩
theorem fo_103_15 : FO Tryz.prog 103 15 1049 := ⟨_, _, _, Tryz.underlying103, rfl, rfl, Tryz.sizeOf22, by decide⟩
theorem fo_103_16 : FO Tryz.prog 103 16 1050 := ⟨_, _, _, Tryz.underlying103, rfl, rfl, Tryz.sizeOf101, by decide⟩
theorem fo_103_17 : FO Tryz.prog 103 17 1051 := ⟨_, _, _, Tryz.underlying103, rfl, rfl, Tryz.sizeOf101, by decide⟩
theorem fo_103_18 : FO Tryz.prog 103 18 1052 := ⟨_, _, _, Tryz.underlying103, rfl, rfl, Tryz.sizeOf3, by decide⟩
theorem fo_103_19 : FO Tryz.prog 103 19 1053 := ⟨_, _, _, Tryz.underlying103, rfl, rfl, Tryz.sizeOf3, by decide⟩
theorem fo_120_0 : FO Tryz.prog 120 0 0 := ⟨_, _, _, Tryz.underlying120, rfl, rfl, Tryz.sizeOf3, by decide⟩
theorem fo_120_1 : FO Tryz.prog 120 1 1 := ⟨_, _, _, Tryz.underlying120, rfl, rfl, Tryz.sizeOf3, by decide⟩
theorem fo_120_2 : FO Tryz.prog 120 2 2 := ⟨_, _, _, Tryz.underlying120, rfl, rfl, Tryz.sizeOf3, by decide⟩
theorem fo_130_0 : FO Tryz.prog 130 0 0 := ⟨_, _, _, Tryz.underlying130, rfl, rfl, Tryz.sizeOf22, by decide⟩
theorem fo_130_1 : FO Tryz.prog 130 1 1 := ⟨_, _, _, Tryz.underlying130, rfl, rfl, Tryz.sizeOf2, by decide⟩
theorem fo_130_2 : FO Tryz.prog 130 2 2 := ⟨_, _, _, Tryz.underlying130, rfl, rfl, Tryz.sizeOf3, by decide⟩
theorem el_22 : EL Tryz.prog 22 5 1 1 := ⟨Tryz.underlying22, Tryz.sizeOf5, ⟨_, Tryz.typeInfo5, rfl⟩, ⟨_, Tryz.zeroValue5, rfl⟩⟩
theorem el_42 : EL Tryz.prog 42 3 1 8 := ⟨Tryz.underlying42, Tryz.sizeOf3, ⟨_, Tryz.typeInfo3, rfl⟩, ⟨_, Tryz.zeroValue3, rfl⟩⟩
theorem el_62 : EL Tryz.prog 62 65 3 24 := ⟨Tryz.underlying62, Tryz.sizeOf65, ⟨_, Tryz.typeInfo65, rfl⟩, ⟨_, Tryz.zeroValue65, rfl⟩⟩
theorem el_117 : EL Tryz.prog 117 120 3 24 := ⟨Tryz.underlying117, Tryz.sizeOf120, ⟨_, Tryz.typeInfo120, rfl⟩, ⟨_, Tryz.zeroValue120, rfl⟩⟩
theorem ce_19 : Callee Tryz.prog 19 := ⟨_, Tryz.func19, by kernel_rfl, rfl⟩
theorem ce_20 : Callee Tryz.prog 20 := ⟨_, Tryz.func20, by kernel_rfl, rfl⟩
theorem ce_21 : Callee Tryz.prog 21 := ⟨_, Tryz.func21, by kernel_rfl, rfl⟩
theorem ce_22 : Callee Tryz.prog 22 := ⟨_, Tryz.func22, by kernel_rfl, rfl⟩
theorem ce_23 : Callee Tryz.prog 23 := ⟨_, Tryz.func23, by kernel_rfl, rfl⟩
theorem ce_35 : Callee Tryz.prog 35 := ⟨_, Tryz.func35, by kernel_rfl, rfl⟩
theorem ce_37 : Callee Tryz.prog 37 := ⟨_, Tryz.func37, by kernel_rfl, rfl⟩
theorem ce_38 : Callee Tryz.prog 38 := ⟨_, Tryz.func38, by kernel_rfl, rfl⟩
theorem ce_39 : Callee Tryz.prog 39 := ⟨_, Tryz.func39, by kernel_rfl, rfl⟩
theorem ce_40 : Callee Tryz.prog 40 := ⟨_, Tryz.func40, by kernel_rfl, rfl⟩
theorem ce_41 : Callee Tryz.prog 41 := ⟨_, Tryz.func41, by kernel_rfl, rfl⟩
theorem ce_43 : Callee Tryz.prog 43 := ⟨_, Tryz.func43, by kernel_rfl, rfl⟩
theorem ce_44 : Callee Tryz.prog 44 := ⟨_, Tryz.func44, by kernel_rfl, rfl⟩
theorem ce_45 : Callee Tryz.prog 45 := ⟨_, Tryz.func45, by kernel_rfl, rfl⟩
theorem ce_46 : Callee Tryz.prog 46 := ⟨_, Tryz.func46, by kernel_rfl, rfl⟩
theorem ce_47 : Callee Tryz.prog 47 := ⟨_, Tryz.func47, by kernel_rfl, rfl⟩
theorem ce_48 : Callee Tryz.prog 48 := ⟨_, Tryz.func48, by kernel_rfl, rfl⟩
theorem ce_49 : Callee Tryz.prog 49 := ⟨_, Tryz.func49, by kernel_rfl, rfl⟩
theorem ce_50 : Callee Tryz.prog 50 := ⟨_, Tryz.func50, by kernel_rfl, rfl⟩
theorem ce_52 : Callee Tryz.prog 52 := ⟨_, Tryz.func52, by kernel_rfl, rfl⟩
theorem ce_53 : Callee Tryz.prog 53 := ⟨_, Tryz.func53, by kernel_rfl, rfl⟩
theorem ce_54 : Callee Tryz.prog 54 := ⟨_, Tryz.func54, by kernel_rfl, rfl⟩
theorem ce_55 : Callee Tryz.prog 55 := ⟨_, Tryz.func55, by kernel_rfl, rfl⟩
theorem ce_56 : Callee Tryz.prog 56 := ⟨_, Tryz.func56, by kernel_rfl, rfl⟩
theorem ce_57 : Callee Tryz.prog 57 := ⟨_, Tryz.func57, by kernel_rfl, rfl⟩
theorem ce_59 : Callee Tryz.prog 59 := ⟨_, Tryz.func59, by kernel_rfl, rfl⟩
theorem ce_60 : Callee Tryz.prog 60 := ⟨_, Tryz.func60, by kernel_rfl, rfl⟩
theorem ce_61 : Callee Tryz.prog 61 := ⟨_, Tryz.func61, by kernel_rfl, rfl⟩
theorem ce_62 : Callee Tryz.prog 62 := ⟨_, Tryz.func62, by kernel_rfl, rfl⟩
theorem ce_63 : Callee Tryz.prog 63 := ⟨_, Tryz.func63, by kernel_rfl, rfl⟩
theorem ce_64 : Callee Tryz.prog 64 := ⟨_, Tryz.func64, by kernel_rfl, rfl⟩
theorem ce_65 : Callee Tryz.prog 65 := ⟨_, Tryz.func65, by kernel_rfl, rfl⟩
theorem ce_66 : Callee Tryz.prog 66 := ⟨_, Tryz.func66, by kernel_rfl, rfl⟩
theorem ce_67 : Callee Tryz.prog 67 := ⟨_, Tryz.func67, by kernel_rfl, rfl⟩
theorem ce_68 : Callee Tryz.prog 68 := ⟨_, Tryz.func68, by kernel_rfl, rfl⟩
theorem ce_69 : Callee Tryz.prog 69 := ⟨_, Tryz.func69, by kernel_rfl, rfl⟩
theorem ce_70 : Callee Tryz.prog 70 := ⟨_, Tryz.func70, by kernel_rfl, rfl⟩
theorem ce_71 : Callee Tryz.prog 71 := ⟨_, Tryz.func71, by kernel_rfl, rfl⟩
theorem ce_72 : Callee Tryz.prog 72 := ⟨_, Tryz.func72, by kernel_rfl, rfl⟩
theorem ce_73 : Callee Tryz.prog 73 := ⟨_, Tryz.func73, by kernel_rfl, rfl⟩
theorem ce_74 : Callee Tryz.prog 74 := ⟨_, Tryz.func74, by kernel_rfl, rfl⟩
theorem ce_75 : Callee Tryz.prog 75 := ⟨_, Tryz.func75, by kernel_rfl, rfl⟩
theorem ce_76 : Callee Tryz.prog 76 := ⟨_, Tryz.func76, by kernel_rfl, rfl⟩
theorem ce_77 : Callee Tryz.prog 77 := ⟨_, Tryz.func77, by kernel_rfl, rfl⟩
theorem ce_78 : Callee Tryz.prog 78 := ⟨_, Tryz.func78, by kernel_rfl, rfl⟩
theorem ce_79 : Callee Tryz.prog 79 := ⟨_, Tryz.func79, by kernel_rfl, rfl⟩
theorem ce_80 : Callee Tryz.prog 80 := ⟨_, Tryz.func80, by kernel_rfl, rfl⟩
theorem ce_81 : Callee Tryz.prog 81 := ⟨_, Tryz.func81, by kernel_rfl, rfl⟩
theorem ce_82 : Callee Tryz.prog 82 := ⟨_, Tryz.func82, by kernel_rfl, rfl⟩
theorem ce_83 : Callee Tryz.prog 83 := ⟨_, Tryz.func83, by kernel_rfl, rfl⟩
theorem ce_86 : Callee Tryz.prog 86 := ⟨_, Tryz.func86, by kernel_rfl, rfl⟩
theorem ce_87 : Callee Tryz.prog 87 := ⟨_, Tryz.func87, by kernel_rfl, rfl⟩
theorem ce_88 : Callee Tryz.prog 88 := ⟨_, Tryz.func88, by kernel_rfl, rfl⟩
theorem ce_89 : Callee Tryz.prog 89 := ⟨_, Tryz.func89, by kernel_rfl, rfl⟩
theorem ce_90 : Callee Tryz.prog 90 := ⟨_, Tryz.func90, by kernel_rfl, rfl⟩
theorem ce_91 : Callee Tryz.prog 91 := ⟨_, Tryz.func91, by kernel_rfl, rfl⟩
theorem ce_92 : Callee Tryz.prog 92 := ⟨_, Tryz.func92, by kernel_rfl, rfl⟩
theorem ce_93 : Callee Tryz.prog 93 := ⟨_, Tryz.func93, by kernel_rfl, rfl⟩
theorem ce_94 : Callee Tryz.prog 94 := ⟨_, Tryz.func94, by kernel_rfl, rfl⟩
theorem ce_95 : Callee Tryz.prog 95 := ⟨_, Tryz.func95, by kernel_rfl, rfl⟩
theorem ce_96 : Callee Tryz.prog 96 := ⟨_, Tryz.func96, by kernel_rfl, rfl⟩
theorem ce_97 : Callee Tryz.prog 97 := ⟨_, Tryz.func97, by kernel_rfl, rfl⟩
theorem ce_98 : Callee Tryz.prog 98 := ⟨_, Tryz.func98, by kernel_rfl, rfl⟩
theorem ce_99 : Callee Tryz.prog 99 := ⟨_, Tryz.func99, by kernel_rfl, rfl⟩
theorem ce_107 : Callee Tryz.prog 107 := ⟨_, Tryz.func107, by kernel_rfl, rfl⟩
theorem ce_108 : Callee Tryz.prog 108 := ⟨_, Tryz.func108, by kernel_rfl, rfl⟩
theorem ce_109 : Callee Tryz.prog 109 := ⟨_, Tryz.func109, by kernel_rfl, rfl⟩
theorem ce_110 : Callee Tryz.prog 110 := ⟨_, Tryz.func110, by kernel_rfl, rfl⟩
theorem ce_111 : Callee Tryz.prog 111 := ⟨_, Tryz.func111, by kernel_rfl, rfl⟩
theorem ce_112 : Callee Tryz.prog 112 := ⟨_, Tryz.func112, by kernel_rfl, rfl⟩
theorem ce_113 : Callee Tryz.prog 113 := ⟨_, Tryz.func113, by kernel_rfl, rfl⟩
theorem ce_114 : Callee Tryz.prog 114 := ⟨_, Tryz.func114, by kernel_rfl, rfl⟩
theorem ce_115 : Callee Tryz.prog 115 := ⟨_, Tryz.func115, by kernel_rfl, rfl⟩
theorem ce_116 : Callee Tryz.prog 116 := ⟨_, Tryz.func116, by kernel_rfl, rfl⟩
theorem ce_117 : Callee Tryz.prog 117 := ⟨_, Tryz.func117, by kernel_rfl, rfl⟩
theorem ce_118 : Callee Tryz.prog 118 := ⟨_, Tryz.func118, by kernel_rfl, rfl⟩
theorem ce_123 : Callee Tryz.prog 123 := ⟨_, Tryz.func123, by kernel_rfl, rfl⟩
theorem ce_124 : Callee Tryz.prog 124 := ⟨_, Tryz.func124, by kernel_rfl, rfl⟩
theorem ce_125 : Callee Tryz.prog 125 := ⟨_, Tryz.func125, by kernel_rfl, rfl⟩
theorem ce_126 : Callee Tryz.prog 126 := ⟨_, Tryz.func126, by kernel_rfl, rfl⟩
theorem ce_127 : Callee Tryz.prog 127 := ⟨_, Tryz.func127, by kernel_rfl, rfl⟩
theorem ce_146 : Callee Tryz.prog 146 := ⟨_, Tryz.func146, by kernel_rfl, rfl⟩
theorem ce_147 : Callee Tryz.prog 147 := ⟨_, Tryz.func147, by kernel_rfl, rfl⟩
theorem ce_154 : Callee Tryz.prog 154 := ⟨_, Tryz.func154, by kernel_rfl, rfl⟩
end Go.Eng
namespace Go.Infl
def packByte : List Bool → Nat
 | [] => 0
 | b :: l => b.toNat + 2 * packByte l
def byteAt (bs : List Bool) (i : Nat) : Nat := packByte ((bs.drop (8 * i)).take 8)
def pack (bs : List Bool) : List Nat := (List.range ((bs.length + 7) / 8)).map (byteAt bs)
def padded (bs : List Bool) : List Nat := if bs.length % 8 = 0 then pack bs ++ [0] else pack bs
theorem packByte_lt : ∀ {l : List Bool} {k : Nat}, l.length ≤ k → packByte l < 2 ^ k := by
 intro l
 induction l with
 | nil => intro k _; exact Nat.two_pow_pos k
 | cons b l ih =>
  intro k h
  cases k with
  | zero => simp at h
  | succ k =>
   have := ih (k := k) (by simpa using h)
   have hb : b.toNat ≤ 1 := by cases b <;> simp
   simp only [packByte, Nat.pow_succ]
   omega
theorem packByte_append : ∀ (l : List Bool) (b : Bool), packByte (l ++ [b]) = packByte l + b.toNat * 2 ^ l.length := by
 intro l
 induction l with
 | nil => intro b; simp [packByte]
 | cons c l ih =>
  intro b
  simp only [List.cons_append, packByte, ih, List.length_cons, Nat.pow_succ]
  rw [Nat.mul_add, ← Nat.mul_assoc, Nat.mul_comm 2 b.toNat, Nat.mul_assoc, Nat.mul_comm 2 (2 ^ l.length)]
  omega
theorem byteAt_lt (bs : List Bool) (i : Nat) : byteAt bs i < 256 := packByte_lt (k := 8) (by simp [List.length_take]; omega)
theorem or_add {a k c : Nat} (h : a < 2 ^ k) : a ||| c * 2 ^ k = a + c * 2 ^ k := by
 rw [Nat.or_comm, Nat.mul_comm, ← Nat.two_pow_add_eq_or_of_lt h]
 omega
theorem byteAt_last (bs : List Bool) (b : Bool) : byteAt (bs ++ [b]) (bs.length / 8) = byteAt bs (bs.length / 8) ||| b.toNat * 2 ^ (bs.length % 8) := by
 unfold byteAt
 have h1 : (bs ++ [b]).drop (8 * (bs.length / 8)) = bs.drop (8 * (bs.length / 8)) ++ [b] := List.drop_append_of_le_length (by omega)
 have h2 : (bs.drop (8 * (bs.length / 8))).length = bs.length % 8 := by simp; omega
 rw [h1, List.take_of_length_le (by simp; omega), List.take_of_length_le (by omega), packByte_append, h2]
 rw [or_add]
 exact packByte_lt (by omega)
theorem byteAt_lt_same (bs : List Bool) (b : Bool) {i : Nat} (h : i < bs.length / 8) : byteAt (bs ++ [b]) i = byteAt bs i := by
 unfold byteAt
 rw [List.drop_append_of_le_length (by omega), List.take_append_of_le_length (by simp; omega)]
theorem pack_length (bs : List Bool) : (pack bs).length = (bs.length + 7) / 8 := by simp [pack]
theorem padded_length (bs : List Bool) : (padded bs).length = bs.length / 8 + 1 := by
 unfold padded
 split
 ·
  simp [pack_length]; omega
 rw [pack_length]; omega
theorem padded_last (bs : List Bool) : (padded bs)[bs.length / 8]? = some (byteAt bs (bs.length / 8)) := by
 unfold padded
 split
 ·
  rename_i h
  rw [List.getElem?_append_right (by rw [pack_length]; omega), pack_length]
  have : bs.length / 8 - (bs.length + 7) / 8 = 0 := by omega
  rw [this]
  have h2 : bs.drop (8 * (bs.length / 8)) = [] := List.drop_eq_nil_of_le (by omega)
  simp [byteAt, h2, packByte]
 rename_i h
 unfold pack
 rw [List.getElem?_map, List.getElem?_range (by omega)]
 rfl
theorem pack_append (bs : List Bool) (b : Bool) : pack (bs ++ [b]) = (padded bs).set (bs.length / 8) (byteAt bs (bs.length / 8) ||| b.toNat * 2 ^ (bs.length % 8)) := by
 apply List.ext_getElem?
 intro i
 by_cases hi : i = bs.length / 8
 ·
  subst hi
  rw [List.getElem?_set_self (by rw [padded_length]; omega)]
  unfold pack
  rw [List.getElem?_map, List.getElem?_range (by simp; omega)]
  simp [byteAt_last]
 rw [List.getElem?_set_ne (fun e => hi e.symm)]
 by_cases hlt : i < bs.length / 8
 ·
  have h1 : (pack (bs ++ [b]))[i]? = some (byteAt bs i) := by
   unfold pack
   rw [List.getElem?_map, List.getElem?_range (by simp; omega)]
   simp [byteAt_lt_same bs b hlt]
  have h2 : (pack bs)[i]? = some (byteAt bs i) := by
   unfold pack
   rw [List.getElem?_map, List.getElem?_range (by omega)]
   rfl
  rw [h1]
  unfold padded
  split
  ·
   rw [List.getElem?_append_left (by rw [pack_length]; omega), h2]
  rw [h2]
 rw [List.getElem?_eq_none (by rw [pack_length]; simp; omega), List.getElem?_eq_none (by rw [padded_length]; omega)]
def nbits (n v : Nat) : List Bool := (List.range n).map v.testBit
def cbits (n v : Nat) : List Bool := (nbits n v).reverse
theorem nbits_length (n v : Nat) : (nbits n v).length = n := by simp [nbits]
theorem cbits_length (n v : Nat) : (cbits n v).length = n := by simp [cbits, nbits_length]
theorem nbits_succ (n v : Nat) : nbits (n + 1) v = nbits n v ++ [v.testBit n] := by simp [nbits, List.range_succ]
theorem odd_testBit (v i : Nat) : decide ((v / 2 ^ i) % 2 = 1) = v.testBit i := by rw [Nat.testBit_eq_decide_div_mod_eq]
theorem bits8_length (xs : List Nat) : (xs.flatMap (nbits 8)).length = 8 * xs.length := by
 induction xs with
 | nil => rfl
 | cons x xs ih => rw [List.flatMap_cons, List.length_append, ih, nbits_length, List.length_cons]; omega
theorem flag_lt (f : Bool) : Bool.toNat f < 2 := by cases f <;> decide
def storedBits (f : Bool) (ps : List Bool) (xs : List Nat) : List Bool := nbits 3 (Bool.toNat f) ++ ps ++ nbits 16 xs.length ++ nbits 16 (65535 - xs.length) ++ xs.flatMap (nbits 8)
theorem storedBits_length (f : Bool) (ps : List Bool) (xs : List Nat) : (storedBits f ps xs).length = 35 + ps.length + 8 * xs.length := by
 unfold storedBits
 simp only [List.length_append, nbits_length, bits8_length]
 omega
end Go.Infl
namespace Go.Eng
open Go Go.Infl
theorem one_u8 : ∀ x, one (u8 x) = true := fun _ => rfl
theorem one_i64 : ∀ x, one (i64 x) = true := fun _ => rfl
def Wr (p : Nat) (bs : List Bool) : HProp := hex fun v => sep [blk p 2 (lst [v, i64 bs.length]), slc 1 v (pack bs).length ((pack bs).map u8)]
section
variable {G w : World} {R : List HProp} {v : Value}
theorem Sat.wr {p : Nat} {bs : List Bool} (h : Sat G w (Wr p bs :: R)) : ∃ v, Sat G w (Eng.blk p 2 (lst [v, i64 bs.length]) :: Eng.slc 1 v (pack bs).length ((pack bs).map u8) :: R) :=
 let ⟨v, hv⟩ := h.ex; ⟨v, hv.unsep⟩
theorem Sat.toWr {p : Nat} {bs : List Bool} (h : Sat G w (Eng.blk p 2 (lst [v, i64 bs.length]) :: Eng.slc 1 v (pack bs).length ((pack bs).map u8) :: R)) : Sat G w (Wr p bs :: R) :=
 (Sat.resep (Ls := [Eng.blk p 2 (lst [v, i64 bs.length]), Eng.slc 1 v (pack bs).length ((pack bs).map u8)]) h).imp fun _ hm => ⟨v, hm⟩
theorem Sat.slc1 {k : Nat} {cs : List Value} (h : Sat G w (Eng.slc 1 v k cs :: R)) (hk : 0 < k) :
 ∃ b c F, v = .slice (some ⟨b, 0, none⟩) k c ∧ k ≤ c ∧ cs.length = k ∧ (∀ j x, cs[j]? = some x → F j = x) ∧ Sat G w (Eng.blk b c F :: R) := by
 obtain ⟨hl, ⟨_, rfl, _⟩ | ⟨b, c, F, h1, h2, h3, h4⟩⟩ := h.slc
 ·
  omega
 rw [Nat.mul_one] at h3 hl
 exact ⟨b, c, F, h1, h2, hl, h4, h3⟩
theorem mk_slc1 {k b c : Nat} {F : Nat → Value} {cs : List Value} (hl : cs.length = k) (hk : k ≤ c) (hF : ∀ j x, cs[j]? = some x → F j = x) : ∀ m, Eng.blk b c F m → Eng.slc 1 (.slice (some ⟨b, 0, none⟩) k c) k cs m :=
 fun m h => ⟨by rw [Nat.mul_one]; exact hl, .inr ⟨b, c, F, rfl, hk, by rw [Nat.mul_one]; exact h, hF⟩⟩
theorem slc_eq {s k k' : Nat} {cs cs' : List Value} (hk : k = k') (hc : cs = cs') : ∀ m, Eng.slc s v k cs m → Eng.slc s v k' cs' m := by subst hk hc; exact fun _ h => h
theorem blk_eq {b k k' : Nat} {F F' : Nat → Value} (hk : k = k') (hc : F = F') : ∀ m, Eng.blk b k F m → Eng.blk b k' F' m := by subst hk hc; exact fun _ h => h
theorem rdsl {P : Program} {L : List HProp} {b m k c l0 s : Nat} {l : List Value} (h : Eng.blk b m (lst l) ∈ L) (hk : l.length = k * s) (hm : m = l.length) : Rds P G L (.slice (some ⟨b, 0, none⟩) l0 c) s k l :=
 Rds.blk h hk (by omega) (fun j v hj => by rw [Nat.zero_add]; exact lst_get hj)
theorem upd_list {F : Nat → Value} {cs : List Value} {i : Nat} {v : Value} (h : ∀ j x, cs[j]? = some x → F j = x) : ∀ j x, (cs.set i v)[j]? = some x → upd F i v j = x := fun j x hj => by
 by_cases e : j = i
 ·
  subst e
  rw [upd_same]
  rw [List.getElem?_set] at hj
  split at hj
  ·
   split at hj
   ·
    exact Option.some.inj hj
   cases hj
  rename_i hn; exact absurd rfl hn
 rw [upd_ne _ _ e]
 rw [List.getElem?_set_ne (fun e' => e e'.symm)] at hj
 exact h j x hj
variable {P : Program} {ρ : Env} {n : Nat} {Q : Exit → Act → World → Prop} {ops : Array Oper} {rest : List Oper}
theorem CT.open1 {c : Code} {k : Nat} {cs : List Value} (hk : 0 < k) (h : ∀ b cp F, v = .slice (some ⟨b, 0, none⟩) k cp → k ≤ cp → cs.length = k → (∀ j x, cs[j]? = some x → F j = x) → CT P c Q ρ n G (blk b cp F :: R)) : CT P c Q ρ n G (slc 1 v k cs :: R) := fun w a hS ha => by
 obtain ⟨b, cp, F, h1, h2, h3, h4, h5⟩ := hS.slc1 hk
 exact h b cp F h1 h2 h3 h4 w a h5 ha
theorem TL.open1 {k : Nat} {cs : List Value} (hk : 0 < k) (h : ∀ b cp F, v = .slice (some ⟨b, 0, none⟩) k cp → k ≤ cp → cs.length = k → (∀ j x, cs[j]? = some x → F j = x) → TL P Q ops rest ρ n G (blk b cp F :: R)) : TL P Q ops rest ρ n G (slc 1 v k cs :: R) := fun w a hS ha => by
 obtain ⟨b, cp, F, h1, h2, h3, h4, h5⟩ := hS.slc1 hk
 exact h b cp F h1 h2 h3 h4 w a h5 ha
theorem OV.te {t : Nat} {u : Value} (h : (t, u) ∈ ρ) (e : u = v) : OV ρ (.tmp t) v := e ▸ .t h
variable {L : List HProp} {d : Option Tmp} {ty : TypeId} {pos : String} {af : Array Edge} {g : Option (Nat × Bool)}
theorem Sat.slc_shape {s k : Nat} {cs : List Value} (hm : Eng.slc s v k cs ∈ L) (h : Sat G w L) : cs.length = k * s ∧ ((v = .slice none 0 0 ∧ k = 0) ∨ ∃ b c, v = .slice (some ⟨b, 0, none⟩) k c ∧ k ≤ c) := by
 obtain ⟨m, ⟨hl, hA⟩, _⟩ := h.obj hm
 refine ⟨hl, ?_⟩
 rcases hA with h1 | ⟨b, c, F, h1, h2, _⟩
 ·
  exact .inl h1
 exact .inr ⟨b, c, h1, h2⟩
theorem Sat.slc_cell {s k c j b : Nat} {x : Value} {cs : List Value} (hm : Eng.slc s v k cs ∈ L) (h : Sat G w L) (hv : v = .slice (some ⟨b, 0, none⟩) k c) (hx : cs[j]? = some x) : w.cell? ⟨b, j, none⟩ = some x := by
 obtain ⟨m, ⟨hl, hA⟩, hmo⟩ := h.obj hm
 rcases hA with ⟨h1, _⟩ | ⟨b', c', F, h1, h2, ⟨cs', T, e1, e2, e3⟩, h4⟩
 ·
  rw [h1] at hv; cases hv
 rw [h1] at hv
 cases hv
 have hlt : j < cs.length := (List.getElem?_eq_some_iff.1 hx).1
 have h5 := (hmo _ _ e1).2
 simp [World.cell?, h5, e3 j (Nat.lt_of_lt_of_le (hl ▸ hlt) (Nat.mul_le_mul_right _ h2)), h4 j x hx]
theorem CT.peek {c : Code} {s k : Nat} {cs : List Value} (hm : slc s v k cs ∈ L) (hk : 0 < k) (h : ∀ b cp, v = .slice (some ⟨b, 0, none⟩) k cp → k ≤ cp → cs.length = k * s → CT P c Q ρ n G L) : CT P c Q ρ n G L := fun w a hS ha => by
 obtain ⟨hl, ⟨_, h0⟩ | ⟨b, cp, h1, h2⟩⟩ := hS.slc_shape hm
 ·
  omega
 exact h b cp h1 h2 hl w a hS ha
theorem TL.peek {s k : Nat} {cs : List Value} (hm : slc s v k cs ∈ L) (hk : 0 < k) (h : ∀ b cp, v = .slice (some ⟨b, 0, none⟩) k cp → k ≤ cp → cs.length = k * s → TL P Q ops rest ρ n G L) : TL P Q ops rest ρ n G L := fun w a hS ha => by
 obtain ⟨hl, ⟨_, h0⟩ | ⟨b, cp, h1, h2⟩⟩ := hS.slc_shape hm
 ·
  omega
 exact h b cp h1 h2 hl w a hS ha
theorem r_lens {t : TypeId} {e : TypeId} {af2 : Array TypeId} {x : Operand} {s k : Nat} {cs : List Value} (ht : P.underlying t = some (.slice e)) (hx : OV ρ x v) (hm : slc s v k cs ∈ L) (h : af2 = #[t] := by rfl) :
 Run P G ρ n L ⟨d, .call ⟨.builtin .len, #[x], af2⟩, ty, pos, af, g⟩ (.int .i64 (k : Int)) := fun w a hS ha => by
 obtain ⟨_, ⟨rfl, rfl⟩ | ⟨b, c, rfl, _⟩⟩ := hS.slc_shape hm
 ·
  exact r_len (G := G) (L := L) ht hx h w a hS ha
 exact r_len (G := G) (L := L) ht hx h w a hS ha
theorem r_lds {t b j s k c : Nat} {x : Operand} {u : Value} {cs : List Value} (hA : ∀ w, (isAgg t).run P w = .ok false w) (hm : slc s v k cs ∈ L) (hv : v = .slice (some ⟨b, 0, none⟩) k c) (h : OV ρ x (pt b j)) (hx : cs[j]? = some u) :
 Run P G ρ n L ⟨d, .load t x, ty, pos, af, g⟩ u := r_ldc hA h fun _ hS => hS.slc_cell hm hv hx
end
end Go.Eng
namespace Go.Eng
open Go Go.Proofs Go.Infl
theorem and1 (x : Nat) : (decide (x % 2 = 1)).toNat = x &&& 1 := by
 rw [Nat.and_one_is_mod]
 have : x % 2 = 0 ∨ x % 2 = 1 := by omega
 rcases this with h | h <;> simp [h]
theorem bit_lt (x n : Nat) : (x &&& 1) * 2 ^ (n % 8) < 256 := by
 rw [Nat.and_one_is_mod]
 have h1 : x % 2 ≤ 1 := by omega
 have h2 : 2 ^ (n % 8) ≤ 2 ^ 7 := Nat.pow_le_pow_right (by omega) (by omega)
 have := Nat.mul_le_mul h1 h2
 omega
theorem bit_close {b c x : Nat} {bs : List Bool} {F : Nat → Value} (hl : ((padded bs).map u8).length = (padded bs).length) (hk : (padded bs).length ≤ c) (hF : ∀ j x, ((padded bs).map u8)[j]? = some x → F j = x) :
 ∀ m, blk b c (upd F (bs.length / 8) (u8 (byteAt bs (bs.length / 8) ||| (x &&& 1) * 2 ^ (bs.length % 8)))) m →
  slc 1 (.slice (some ⟨b, 0, none⟩) (padded bs).length c) (pack (bs ++ [decide (x % 2 = 1)])).length ((pack (bs ++ [decide (x % 2 = 1)])).map u8) m := by
 have e := pack_append bs (decide (x % 2 = 1))
 rw [and1] at e
 have h1 : (pack (bs ++ [decide (x % 2 = 1)])).length = (padded bs).length := by rw [e, List.length_set]
 rw [h1, e, List.map_set]
 exact mk_slc1 (by rw [List.length_set]; exact hl) hk (upd_list hF)
theorem t65 (p x : Nat) (bs : List Bool) (hb : bs.length < 1099511627776) (hx : x < 9223372036854775808) {G : World} {R : List HProp} {w : World} (hS : Sat G w (Wr p bs :: R)) :
 CallsR Tryz.prog 65 #[(pt p 0), (i64 x)] w (fun r w' => r = .tuple #[] ∧ Sat G w' (Wr p (bs ++ [decide (x % 2 = 1)]) :: R)) := by
 obtain ⟨v, hS⟩ := hS.wr
 refine calls_in (n := 48) [(0, (pt p 0)), (1, (i64 x))] Tryz.func65 rfl rfl hS args2 ?_
 refine CT.cut (X := Value) (fun gx => [(0, (pt p 0)), (1, (i64 x))]) (fun gx => (slc 1 gx ((padded bs).length) ((padded bs).map u8)) :: blk p 2 (lst [gx, (i64 bs.length)]) :: R) (fun gx => True) ?_ ?_
 ·
  refine CT.q (TL.m m0 (TL.c m0 (TL.f 1 fo_39_1 m0 (TL.val (r_ld (v := (i64 bs.length)) Tryz.isAgg3 m0 T0 (by decide) rfl) (TL.val (n_rem bs.length 8 T0 .c rfl rfl (by omega)) (TL.val (n_eql ((bs.length % 8)) 0 T0 .c) (TL.b (.hd .u5) (CT.ifd m0 (fun c9 => ?_) (fun c9 => ?_)))))))))
  ·
   refine CT.sub .u1 (CT.region (TL.m m0 (TL.m m1 (TL.c m0 (TL.f 0 fo_39_0 m0 (TL.val (r_ld (v := v) Tryz.isAgg22 m0 T0 (by decide) rfl) (TL.w (r_buildSlice (k := 1) (e := 5) (cs := #[(.int .u8 0)]) (F := lst [(.int .u8 0)]) (.cons .c .nil) (fun _ => by kernel_rfl) rfl lst_ok) ?_)))))))
   rintro _ w15 ⟨b15, rfl, hS⟩
   refine TW.at hS (TL.perm p2 (TL.w (r_append el_22 Tryz.underlying22 T1 T0 ⟨_, _, rfl⟩ (rdsl m1 rfl rfl) ones1 (by rw [pack_length]; omega) (by rw [pack_length]; omega)) ?_))
   intro v16 w16 hS
   have ho := hS.slc_one
   exact TW.at hS (TL.perm p1 (TL.conv (fun _ h => h.tail) (TL.c m6 (TL.f 0 fo_39_0 m0 (TL.s (r_stl (l' := [v16, (i64 bs.length)]) Tryz.sizeOf22 a1 T0 T2 (by decide) (hv := ho)) (TL.x .u9 (EX.fold (A' := (slc 1 v16 ((padded bs).length) ((padded bs).map u8))) a0 (slc_eq (by rw [padded, if_pos c9]; simp) (by rw [padded, if_pos c9]; simp)) (EX.meet v16 trivial (.refl _) (.cons m0 (.cons m1 .nil))))))))))
  exact CT.z (EX.fold (A' := (slc 1 v ((padded bs).length) ((padded bs).map u8))) a1 (slc_eq (by rw [padded, if_neg c9]) (by rw [padded, if_neg c9])) (EX.perm p1 (EX.meet v trivial (.refl _) (.cons m0 (.cons m1 .nil)))))
 rintro v hI
 refine CT.open1 (by rw [padded_length]; omega) ?_
 rintro b b_c b_F rfl b_k b_l b_h
 refine CT.seq (CT.draw 22 fm (by kernel_rfl) ?_)
 refine TS.m m0 (TS.c m0 (TS.f 0 fo_39_0 m0 (TS.val (r_ld (v := (.slice (some ⟨b, 0, none⟩) ((padded bs).length) b_c)) Tryz.isAgg22 m1 T0 (by decide) rfl) (TS.m m4 (TS.c m0 (TS.f 1 fo_39_1 m0 (TS.val (r_ld (v := (i64 bs.length)) Tryz.isAgg3 m1 T0 (by decide) rfl) (TS.val (n_quo bs.length 8 9223372036854775808 T0 .c rfl rfl (by omega) (by omega)) (TS.val (r_ia (i := (bs.length / 8)) (off' := (bs.length / 8)) Tryz.underlying22 Tryz.sizeOf5 T5 T0 rfl (by rw [padded_length]; omega) (by omega)) (TS.val (r_ld (v := (u8 (byteAt bs (bs.length / 8)))) Tryz.isAgg5 m0 T0 (by rw [padded_length] at b_k; omega) (b_h _ _ (by rw [List.getElem?_map, padded_last]; rfl))) ?_))))))))))
 exact TS.m m12 (TS.val (n_and x 1 9223372036854775808 T0 .c rfl rfl (by omega) (by omega)) (TS.val (n_conv ((x &&& 1)) 256 ⟨_, Tryz.underlying3⟩ Tryz.underlying5 T0 rfl (by have := @Nat.and_le_right x 1; omega)) (TS.m m14 (TS.c m0 (TS.f 1 fo_39_1 m0 (TS.val (r_ld (v := (i64 bs.length)) Tryz.isAgg3 m1 T0 (by decide) rfl) (TS.val (n_rem bs.length 8 T0 .c rfl rfl (by omega)) (TS.val (n_shl ((x &&& 1)) ((bs.length % 8)) 256 T5 T0 rfl rfl (show _ ≤ 8 by omega) (bit_lt x bs.length)) (TS.val (n_or ((byteAt bs (bs.length / 8))) (((x &&& 1) * 2 ^ (bs.length % 8))) 256 T9 T0 rfl rfl (by first | exact byteAt_lt _ _ | exact bit_lt x bs.length) (by first | exact byteAt_lt _ _ | exact bit_lt x bs.length)) (TS.val (r_ia (i := (bs.length / 8)) (off' := (bs.length / 8)) Tryz.underlying22 Tryz.sizeOf5 T17 T12 rfl (by rw [padded_length]; omega) (by omega)) (TS.nil (TL.s (r_st (F' := upd b_F (bs.length / 8) (u8 ((byteAt bs (bs.length / 8)) ||| ((x &&& 1) * 2 ^ (bs.length % 8))))) Tryz.sizeOf5 rfl a0 T0 T1 (by rw [padded_length] at b_k; omega)) (TL.b (.tl (.tl (.tl (.tl (.tl (.tl (.tl (.tl (.tl (.tl (.tl (.tl (.tl (.tl (.tl (.tl (.tl (.tl (.tl (.tl (.tl (.tl (.hd .u1))))))))))))))))))))))) (CT.region (TL.m m0 (TL.c m0 (TL.f 1 fo_39_1 m0 (TL.val (r_ld (v := (i64 bs.length)) Tryz.isAgg3 m1 T0 (by decide) rfl) (TL.val (n_add bs.length 1 9223372036854775808 T0 .c) (TL.c m4 (TL.f 1 fo_39_1 m0 (TL.s (r_stl (l' := [(.slice (some ⟨b, 0, none⟩) ((padded bs).length) b_c), (i64 (bs.length + 1))]) Tryz.sizeOf3 a1 T0 T2 (by decide)) (TL.x .u7 (EX.perm p1 (EX.fold (A' := (slc 1 (.slice (some ⟨b, 0, none⟩) ((padded bs).length) b_c) ((pack (bs ++ [decide (x % 2 = 1)])).length) ((pack (bs ++ [decide (x % 2 = 1)])).map u8))) a1 (bit_close b_l b_k b_h) (EX.fold (A' := (blk p 2 (lst [(.slice (some ⟨b, 0, none⟩) ((padded bs).length) b_c), (i64 ((bs ++ [decide (x % 2 = 1)]).length))]))) a0 (blk_eq rfl (by simp only [List.length_append, List.length_singleton])) (EX.end_ (.inr rfl) (res0 Tryz.results65) (fun _ hS => ⟨rfl, Sat.toWr hS⟩))))))))))))))))))))))))))))
end Go.Eng
namespace Go.Eng
open Go Go.Proofs Go.Infl
theorem Wr_eq {p : Nat} {bs bs' : List Bool} (h : bs = bs') : ∀ m, Wr p bs m → Wr p bs' m := by subst h; exact fun _ h => h
theorem div_lt {x k : Nat} (h : x < 9223372036854775808) : x / 2 ^ k < 9223372036854775808 := Nat.lt_of_le_of_lt (Nat.div_le_self _ _) h
theorem shr_int {x k : Nat} (h : 1 ≤ k) (hk : k ≤ 63) : ((x : Nat) : Int).fdiv (2 ^ min ((((k : Nat) : Int) - 1)).toNat IntKind.i64.bits) = ((x / 2 ^ (k - 1) : Nat) : Int) := by
 have e : (((k : Nat) : Int) - 1).toNat = k - 1 := by omega
 rw [e, show min (k - 1) IntKind.i64.bits = k - 1 by simp [IntKind.bits]; omega]
 have : (2 : Int) ^ (k - 1) = ((2 ^ (k - 1) : Nat) : Int) := by push_cast; rfl
 rw [this, Int.ofNat_fdiv]
theorem cbits_get {n x j : Nat} (h : j < n) : (cbits n x)[j]? = some (x.testBit (n - 1 - j)) := by
 unfold cbits
 rw [List.getElem?_reverse (by rw [nbits_length]; exact h), nbits_length]
 unfold nbits
 rw [List.getElem?_map, List.getElem?_range (by omega)]
 rfl
theorem code_step {bs : List Bool} {n x k : Nat} (h : 1 ≤ k ∧ k ≤ n) : (bs ++ (cbits n x).take (n - k)) ++ [decide ((x / 2 ^ (k - 1)) % 2 = 1)] = bs ++ (cbits n x).take (n - (k - 1)) := by
 rw [odd_testBit, List.append_assoc, show n - (k - 1) = (n - k) + 1 by omega, List.take_add_one, cbits_get (by omega), show n - 1 - (n - k) = k - 1 by omega]
 rfl
section
variable {P : Program} {G : World} {ρ : Env} {n : Nat} {R : List HProp} {Q : Exit → Act → World → Prop} {ops : Array Oper} {rest : List Oper} {v : Value} {p : Nat} {bs : List Bool}
theorem TL.wr (k : ∀ v, TL P Q ops rest ρ n G (blk p 2 (lst [v, i64 bs.length]) :: slc 1 v (pack bs).length ((pack bs).map u8) :: R)) : TL P Q ops rest ρ n G (Wr p bs :: R) := fun w a hS ha => let ⟨v, hv⟩ := hS.wr; k v w a hv ha
theorem TL.unwr (k : TL P Q ops rest ρ n G (Wr p bs :: R)) : TL P Q ops rest ρ n G (blk p 2 (lst [v, i64 bs.length]) :: slc 1 v (pack bs).length ((pack bs).map u8) :: R) := fun w a hS ha => k w a hS.toWr ha
theorem CT.wr {c : Code} (k : ∀ v, CT P c Q ρ n G (blk p 2 (lst [v, i64 bs.length]) :: slc 1 v (pack bs).length ((pack bs).map u8) :: R)) : CT P c Q ρ n G (Wr p bs :: R) := fun w a hS ha => let ⟨v, hv⟩ := hS.wr; k v w a hv ha
theorem CT.unwr {c : Code} (k : CT P c Q ρ n G (Wr p bs :: R)) : CT P c Q ρ n G (blk p 2 (lst [v, i64 bs.length]) :: slc 1 v (pack bs).length ((pack bs).map u8) :: R) := fun w a hS ha => k w a hS.toWr ha
end
theorem t77 (b : Bool) {G : World} {R : List HProp} {w : World} (hS : Sat G w (R)) :
 CallsR Tryz.prog 77 #[(.bool b)] w (fun r w' => r = i64 b.toNat ∧ Sat G w' R) := by
 refine calls_in (n := 4) [(0, (.bool b))] Tryz.func77 rfl rfl hS args1 ?_
 refine CT.q (TL.val (r_asg .c) (TL.e (CT.seq (CT.q (TL.m m1 (TL.b (.hd (.hd .u1)) (CT.iff m0 (fun c3 => ?_) (fun c3 => ?_))))))))
 ·
  exact CT.y (TL.rm .here (TL.val (r_asg .c) (TL.e (CT.ret (EX.then_ret (EX.end_ (.inl rfl) (res1 Tryz.results77 m0) (fun _ hS => ⟨by first | rfl | simp_all, hS⟩)))))))
 exact CT.z (EX.q (TL.rm .here (TL.val (r_asg .c) (TL.e (CT.ret (EX.end_ (.inl rfl) (res1 Tryz.results77 m0) (fun _ hS => ⟨by first | rfl | simp_all, hS⟩)))))))
theorem t37 (p x n : Nat) (bs : List Bool) (hb : bs.length + n < 1099511627776) (hx : x < 9223372036854775808) (hn : n ≤ 63) {G : World} {R : List HProp} {w : World} (hS : Sat G w (Wr p bs :: R)) :
 CallsR Tryz.prog 37 #[(pt p 0), (i64 x), (i64 n)] w (fun r w' => r = .tuple #[] ∧ Sat G w' (Wr p (bs ++ nbits n x) :: R)) := by
 refine calls_in (n := 17) [(0, (pt p 0)), (1, (i64 x)), (2, (i64 n))] Tryz.func37 rfl rfl hS args3 ?_
 refine CT.q (TL.m m2 (TL.val (r_move .c) (TL.b (.hd (.hd (.hd (.hd .u1)))) (CT.block (CT.fold (A' := (Wr p (bs ++ nbits 0 x))) a0 (Wr_eq (by simp [nbits])) (CT.loop (X := Nat) (fun gx => [(8, (i64 gx)), (7, (i64 n)), (0, (pt p 0)), (1, (i64 x))]) (fun gx => (Wr p (bs ++ nbits gx x)) :: R) (fun gx => gx ≤ n) (fun gx => n - gx) 0 (by omega) (.refl _) (.sl 0 4 rfl) ?_))))))
 rintro k hI
 refine CT.q (TL.val (n_lss k n T0 T1) (TL.e (CT.seq (CT.ifd m0 (fun c9 => ?_) (fun c9 => ?_)))))
 ·
  refine CT.z (EX.seq (CT.seq (CT.block (CT.q (TL.m m0 (TL.a m0 (TL.b (.hd .u1) (CT.region (TL.m m3 (TL.m m5 (TL.m m2 (TL.val (n_shr x k T1 T0 rfl rfl (show _ ≤ 64 by omega)) (TL.call (r_call ce_65 (.cons T3 (.cons T0 .nil))) (fun w hS => t65 p ((x / 2 ^ k)) (bs ++ nbits k x) (by simp [nbits_length]; omega) (div_lt hx) hS) ?_)))))))))))))
  rintro _ w15 ⟨rfl, hS⟩
  exact TW.at hS (TL.x .u5 (EX.bnormal (EX.seq (CT.region (TL.val (n_add k 1 9223372036854775808 T1 .c) (TL.rm .h2 (TL.m m0 (TL.x (.hd .u1) (EX.fold (A' := (Wr p (bs ++ nbits (k + 1) x))) a0 (Wr_eq (by rw [nbits_succ, ← odd_testBit, List.append_assoc])) (EX.again (k + 1) (by omega) (by omega) (.refl _) (.eq m0 (by first | rfl | (congr 1 <;> omega)) (.sl 2 3 rfl))))))))))))
 exact CT.sub .u1 (CT.exit (EX.then_exit (EX.then_exit (EX.out (EX.end_ (.inr rfl) (res0 Tryz.results37) (fun _ hS => ⟨rfl, by obtain rfl : k = n := (by omega); exact hS⟩))))))
theorem t40 (p x n : Nat) (bs : List Bool) (hb : bs.length + n < 1099511627776) (hx : x < 9223372036854775808) (hn : n ≤ 63) {G : World} {R : List HProp} {w : World} (hS : Sat G w (Wr p bs :: R)) :
 CallsR Tryz.prog 40 #[(pt p 0), (i64 x), (i64 n)] w (fun r w' => r = .tuple #[] ∧ Sat G w' (Wr p (bs ++ cbits n x) :: R)) := by
 refine calls_in (n := 18) [(0, (pt p 0)), (1, (i64 x)), (2, (i64 n))] Tryz.func40 rfl rfl hS args3 ?_
 refine CT.q (TL.m m2 (TL.val (r_sub (z := (((n : Int) - 1))) T0 .c (wi (by omega))) (TL.a m0 (TL.b (.hd (.tl (.tl (.hd (.hd .u1))))) (CT.block (CT.fold (A' := (Wr p (bs ++ (cbits n x).take (n - n)))) a0 (Wr_eq (by simp)) (CT.loop (X := Nat) (fun gx => [(6, (.int .i64 (((gx : Nat) : Int) - 1))), (0, (pt p 0)), (1, (i64 x))]) (fun gx => (Wr p (bs ++ (cbits n x).take (n - gx))) :: R) (fun gx => gx ≤ n) (fun gx => gx) n (by omega) (.refl _) (.eq m0 (by first | rfl | (congr 1 <;> omega)) (.cons m1 (.cons m2 .nil))) ?_)))))))
 rintro k hI
 refine CT.seq (CT.q (TL.m m0 (TL.val (r_geq T0 .c) (TL.b (.hd .u1) (CT.ifd m0 (fun c10 => ?_) (fun c10 => ?_))))))
 ·
  refine CT.z (EX.seq (CT.seq (CT.block (CT.region (TL.m m1 (TL.m m3 (TL.m m2 (TL.val (r_shr (z := ((x / 2 ^ (k - 1) : Nat) : Int)) T1 T0 (by omega) (shr_int (by omega) (by omega))) (TL.call (r_call ce_65 (.cons T3 (.cons T0 .nil))) (fun w hS => t65 p ((x / 2 ^ (k - 1))) (bs ++ (cbits n x).take (n - k)) (by simp [cbits_length]; omega) (div_lt hx) hS) ?_)))))))))
  rintro _ w17 ⟨rfl, hS⟩
  exact TW.at hS (TL.x .u5 (EX.bnormal (EX.seq (CT.region (TL.m m0 (TL.val (r_sub (z := (((k - 1 : Nat) : Int) - 1)) T0 .c (wi (by omega))) (TL.rm .h2 (TL.a m0 (TL.x (.hd .u2) (EX.fold (A' := (Wr p (bs ++ (cbits n x).take (n - (k - 1))))) a0 (Wr_eq (code_step (by omega))) (EX.again (k - 1) (by omega) (by omega) (.refl _) (.sl 0 3 rfl))))))))))))
 exact CT.sub .u1 (CT.exit (EX.then_exit (EX.then_exit (EX.out (EX.end_ (.inr rfl) (res0 Tryz.results40) (fun _ hS => ⟨rfl, by obtain rfl : k = 0 := (by omega); rwa [Nat.sub_zero, List.take_of_length_le (by rw [cbits_length]; omega)] at hS⟩))))))
theorem t57 (p x : Nat) (bs : List Bool) (hb : bs.length + 8 < 1099511627776) (hx : x < 9223372036854775808) {G : World} {R : List HProp} {w : World} (hS : Sat G w (Wr p bs :: R)) :
 CallsR Tryz.prog 57 #[(pt p 0), (i64 x)] w (fun r w' => r = .tuple #[] ∧ ∃ ps : List Bool, ps.length < 8 ∧ (bs.length + ps.length) % 8 = 0 ∧ Sat G w' (Wr p (bs ++ ps) :: R)) := by
 refine calls_in (n := 15) [(0, (pt p 0)), (1, (i64 x))] Tryz.func57 rfl rfl hS args2 ?_
 refine CT.block (CT.fold (A' := (Wr p (bs ++ []))) a0 (Wr_eq (by simp)) (CT.loop (X := Nat × List Bool) (fun gx => [(1, (i64 gx.1)), (0, (pt p 0))]) (fun gx => (Wr p (bs ++ gx.2)) :: R) (fun gx => gx.1 < 9223372036854775808 ∧ (gx.2).length ≤ (8 - bs.length % 8) % 8) (fun gx => (8 - bs.length % 8) % 8 - (gx.2).length) ((x, [])) (⟨hx, by simp⟩) (.refl _) (.cons m1 (.cons m0 .nil)) ?_))
 rintro ⟨y, ps⟩ ⟨hI1, hI2⟩
 replace hI1 : y < 9223372036854775808 := hI1
 replace hI2 : ps.length ≤ (8 - bs.length % 8) % 8 := hI2
 refine CT.seq (CT.q (TL.m m1 (TL.c m0 (TL.f 1 fo_39_1 m0 (TL.wr ?_)))))
 intro v
 refine TL.val (r_ld (v := (i64 ((bs ++ ps).length))) Tryz.isAgg3 m0 T0 (by decide) rfl) (TL.unwr ?_)
 refine TL.val (n_rem ((bs ++ ps).length) 8 T0 .c rfl rfl (by omega)) (TL.val (n_neq (((bs ++ ps).length % 8)) 0 T0 .c) (TL.b (.hd .u5) (CT.ifd m0 (fun c9 => ?_) (fun c9 => ?_))))
 ·
  refine CT.z (EX.seq (CT.block (CT.q (TL.m m1 (TL.m m1 (TL.call (r_call ce_65 (.cons T1 (.cons T0 .nil))) (fun w hS => t65 p y (bs ++ ps) (by rw [List.length_append] at *; omega) (by omega) hS) ?_))))))
  rintro _ w12 ⟨rfl, hS⟩
  exact TW.at hS (TL.b .u3 (CT.region (TL.m m0 (TL.val (n_shr y 1 T0 .c rfl rfl (by decide)) (TL.rm .h2 (TL.a m0 (TL.x (.hd .u2) (EX.bnormal (EX.fold (A' := (Wr p (bs ++ (ps ++ [decide (y % 2 = 1)])))) a0 (Wr_eq (by rw [List.append_assoc])) (EX.again ((y / 2 ^ 1, ps ++ [decide (y % 2 = 1)])) (⟨by show y / 2 ^ 1 < _; omega, by show (ps ++ [_]).length ≤ _; simp only [List.length_append, List.length_singleton] at *; omega⟩) (by show _ - (ps ++ [_]).length < _ - ps.length; simp only [List.length_append, List.length_singleton] at *; omega) (.refl _) (.eq m0 (by first | rfl | (congr 1 <;> omega)) (.cons m1 .nil))))))))))))
 exact CT.sub .u1 (CT.exit (EX.then_exit (EX.then_exit (EX.out (EX.end_ (.inr rfl) (res0 Tryz.results57) (fun _ hS => ⟨rfl, ps, by omega, by rw [List.length_append] at c9; omega, hS⟩))))))
end Go.Eng
namespace Go.Eng
open Go Go.Proofs Go.Infl
def Src (G : World) (bv : Value) : Prop := ∃ xs : List Nat, (∀ x ∈ xs, x < 256) ∧ xs.length ≤ 3000 ∧
 ((bv = .slice none 0 0 ∧ xs = []) ∨ ∃ b off c, bv = .slice (some ⟨b, off, none⟩) xs.length c ∧ ∀ j x, xs[j]? = some x → G.cell? ⟨b, off + j, none⟩ = some (u8 x))
def Rdr (G : World) (r N : Nat) : HProp := hex fun x : Value × Nat => sep [hpure (Src G x.1 ∧ x.2 ≤ N), blk r 2 (lst [x.1, i64 x.2])]
theorem Sat.rdr {G w : World} {R : List HProp} {r N : Nat} (h : Sat G w (Rdr G r N :: R)) : ∃ bv q, Src G bv ∧ q ≤ N ∧ Sat G w (Eng.blk r 2 (lst [bv, i64 q]) :: R) := by
 obtain ⟨⟨bv, q⟩, h⟩ := h.ex
 obtain ⟨⟨h1, h2⟩, h3⟩ := (Sat.unsep h).pure
 exact ⟨bv, q, h1, h2, h3⟩
theorem Sat.toRdr {G w : World} {R : List HProp} {r N q : Nat} {bv : Value} (h1 : Src G bv) (h2 : q ≤ N) (h : Sat G w (Eng.blk r 2 (lst [bv, i64 q]) :: R)) : Sat G w (Rdr G r N :: R) := by
 have h3 : Sat G w (hpure (Src G bv ∧ q ≤ N) :: Eng.blk r 2 (lst [bv, i64 q]) :: R) := h.emp ⟨h1, h2⟩
 exact (Sat.resep (Ls := [hpure (Src G bv ∧ q ≤ N), Eng.blk r 2 (lst [bv, i64 q])]) h3).imp fun m hm => ⟨(bv, q), hm⟩
theorem Rdr_mono {G : World} {r N N' : Nat} (h : N ≤ N') : ∀ m, Rdr G r N m → Rdr G r N' m := by
 rintro m ⟨x, m1, ⟨h1, h2⟩, h3, h4⟩
 exact ⟨x, m1, ⟨h1, Nat.le_trans h2 h⟩, h3, h4⟩
theorem src_get {xs : List Nat} (h : ∀ x ∈ xs, x < 256) {j : Nat} (hj : j < xs.length) : ∃ x, xs[j]? = some x ∧ x < 256 := ⟨xs[j], List.getElem?_eq_getElem hj, h _ (List.getElem_mem hj)⟩
theorem t39 (r n N : Nat) (hn : n < 1099511627776) (hN : N < 1099511627776) {G : World} {R : List HProp} {w : World} (hS : Sat G w (Rdr G r N :: R)) :
 CallsR Tryz.prog 39 #[(pt r 0), (i64 n)] w (fun v w' => ∃ y : Nat, v = i64 y ∧ y < max n 1 ∧ Sat G w' (Rdr G r (N + 1) :: R)) := by
 obtain ⟨bv, q, hsrc, hq, hS⟩ := hS.rdr
 have hsrc0 := hsrc
 obtain ⟨xs, hxs, hxl, ⟨rfl, rfl⟩ | ⟨b, off, c, rfl, hb⟩⟩ := hsrc0
 ·
  refine calls_in (n := 92) [(0, (pt r 0)), (1, (i64 n))] Tryz.func39 rfl rfl hS args2 ?_
  refine CT.q (TL.val (r_asg .c) (TL.q (TL.m m1 (TL.c m0 (TL.f 1 fo_78_1 m0 (TL.val (r_ld (v := (i64 q)) Tryz.isAgg3 m0 T0 (by decide) rfl) (TL.a m0 (TL.r (.hd .u4) (TL.m m2 (TL.c m0 (TL.f 1 fo_78_1 m0 (TL.val (r_ld (v := (i64 q)) Tryz.isAgg3 m0 T0 (by decide) rfl) (TL.val (n_add q 1 9223372036854775808 T0 .c) (TL.c m4 (TL.f 1 fo_78_1 m0 (TL.s (r_stl (l' := [(.slice none 0 0), (i64 (q + 1))]) Tryz.sizeOf3 a0 T0 T2 (by decide)) (TL.b .u7 (CT.seq (CT.q (TL.m m3 (TL.val (n_lss n 1 T0 .c) (TL.m m0 ?_))))))))))))))))))))))
  by_cases g20 : n < 1
  ·
   refine TL.sub (.eq m0 (congrArg Value.bool (decide_eq_true g20)) (.eq m1 (congrArg Value.bool (decide_eq_true g20)) (.cons m2 (.cons m3 (.cons m4 (.cons m5 (.cons m6 .nil))))))) (TL.gn m0 (TL.gn m0 (TL.gn m0 (TL.gn m0 (TL.gn m0 (TL.gn m0 (TL.val (r_pickt T0 .c) (TL.b (.hd .u3) (CT.ift m0 ?_)))))))))
   exact CT.y (TL.rm .h1 (TL.val (r_asg .c) (TL.e (CT.ret (EX.then_ret (EX.end_ (.inl rfl) (res1 Tryz.results39 m0) (fun _ hS => ⟨0, rfl, by omega, Sat.toRdr hsrc (by omega) hS⟩)))))))
  refine TL.sub (.eq m0 (congrArg Value.bool (decide_eq_false g20)) (.eq m1 (congrArg Value.bool (decide_eq_false g20)) (.cons m2 (.cons m3 (.cons m4 (.cons m5 (.cons m6 .nil))))))) (TL.gv m0 (r_move T5) (TL.gv m1 (r_nil T0) (TL.gv m2 (r_fa (off' := 0) fo_78_0 T0) (TL.gv m3 (r_ld (v := (.slice none 0 0)) Tryz.isAgg22 m0 T0 (by decide) rfl) (TL.gv m4 (r_len Tryz.underlying22 T0) (TL.gv m5 (show Run _ _ _ _ _ _ (.bool true) from n_eql 0 0 T0 .c rfl rfl) (TL.val (r_pickf T6 T0) (TL.b (.hd .u9) (CT.ift m0 ?_)))))))))
  exact CT.y (TL.rm .h1 (TL.val (r_asg .c) (TL.e (CT.ret (EX.then_ret (EX.end_ (.inl rfl) (res1 Tryz.results39 m0) (fun _ hS => ⟨0, rfl, by omega, Sat.toRdr hsrc (by omega) hS⟩)))))))
 refine calls_in (n := 92) [(0, (pt r 0)), (1, (i64 n))] Tryz.func39 rfl rfl hS args2 ?_
 refine CT.q (TL.val (r_asg .c) (TL.q (TL.m m1 (TL.c m0 (TL.f 1 fo_78_1 m0 (TL.val (r_ld (v := (i64 q)) Tryz.isAgg3 m0 T0 (by decide) rfl) (TL.a m0 (TL.r (.hd .u4) (TL.m m2 (TL.c m0 (TL.f 1 fo_78_1 m0 (TL.val (r_ld (v := (i64 q)) Tryz.isAgg3 m0 T0 (by decide) rfl) (TL.val (n_add q 1 9223372036854775808 T0 .c) (TL.c m4 (TL.f 1 fo_78_1 m0 (TL.s (r_stl (l' := [(.slice (some ⟨b, off, none⟩) xs.length c), (i64 (q + 1))]) Tryz.sizeOf3 a0 T0 T2 (by decide)) (TL.b .u7 (CT.seq (CT.q (TL.m m3 (TL.val (n_lss n 1 T0 .c) (TL.m m0 ?_))))))))))))))))))))))
 by_cases g20 : n < 1
 ·
  refine TL.sub (.eq m0 (congrArg Value.bool (decide_eq_true g20)) (.eq m1 (congrArg Value.bool (decide_eq_true g20)) (.cons m2 (.cons m3 (.cons m4 (.cons m5 (.cons m6 .nil))))))) (TL.gn m0 (TL.gn m0 (TL.gn m0 (TL.gn m0 (TL.gn m0 (TL.gn m0 (TL.val (r_pickt T0 .c) (TL.b (.hd .u3) (CT.ift m0 ?_)))))))))
  exact CT.y (TL.rm .h1 (TL.val (r_asg .c) (TL.e (CT.ret (EX.then_ret (EX.end_ (.inl rfl) (res1 Tryz.results39 m0) (fun _ hS => ⟨0, rfl, by omega, Sat.toRdr hsrc (by omega) hS⟩)))))))
 refine TL.sub (.eq m0 (congrArg Value.bool (decide_eq_false g20)) (.eq m1 (congrArg Value.bool (decide_eq_false g20)) (.cons m2 (.cons m3 (.cons m4 (.cons m5 (.cons m6 .nil))))))) (TL.gv m0 (r_move T5) (TL.gv m1 (r_nil T0) (TL.gv m2 (r_fa (off' := 0) fo_78_0 T0) (TL.gv m3 (r_ld (v := (.slice (some ⟨b, off, none⟩) xs.length c)) Tryz.isAgg22 m0 T0 (by decide) rfl) (TL.gv m4 (r_len Tryz.underlying22 T0) (TL.gv m5 (n_eql xs.length 0 T0 .c) (TL.val (r_pickf T6 T0) (TL.b (.hd .u9) (CT.ifd m0 (fun c27 => ?_) (fun c27 => ?_))))))))))
 ·
  exact CT.y (TL.rm .h1 (TL.val (r_asg .c) (TL.e (CT.ret (EX.then_ret (EX.end_ (.inl rfl) (res1 Tryz.results39 m0) (fun _ hS => ⟨0, rfl, by omega, Sat.toRdr hsrc (by omega) hS⟩)))))))
 refine CT.z (EX.seq (CT.seq ?_))
 have hdv := Nat.div_le_self q xs.length
 obtain ⟨x1, hx1, hl1⟩ := src_get hxs (Nat.mod_lt q (show 0 < xs.length by omega))
 refine CT.still fm (by kernel_rfl) ?_
 refine TS.m m2 (TS.c m0 (TS.f 0 fo_78_0 m0 (TS.val (r_ld (v := (.slice (some ⟨b, off, none⟩) xs.length c)) Tryz.isAgg22 m0 T0 (by decide) rfl) (TS.m m4 (TS.m m7 (TS.c m0 (TS.f 0 fo_78_0 m0 (TS.val (r_ld (v := (.slice (some ⟨b, off, none⟩) xs.length c)) Tryz.isAgg22 m0 T0 (by decide) rfl) (TS.val (r_len Tryz.underlying22 T0) (TS.val (n_rem q xs.length T5 T0 rfl rfl (by omega)) (TS.val (r_ia (i := (q % xs.length)) (off' := off + (q % xs.length)) Tryz.underlying22 Tryz.sizeOf5 T7 T0 rfl (Nat.mod_lt q (by omega)) (by omega)) (TS.val (r_ldc (v := (u8 x1)) Tryz.isAgg5 T0 (fun w hS => hS.base_some (hb _ _ hx1))) (TS.val (n_conv x1 9223372036854775808 ⟨_, Tryz.underlying5⟩ Tryz.underlying3 T0 rfl (by omega)) (TS.val (r_asg T0) (TS.nil (TL.b (.hd .u14) (CT.cut (X := Nat) (fun gx => [(6, (i64 gx)), (5, (i64 q)), (4, (.int .i64 0)), (0, (pt r 0)), (1, (i64 n))]) (fun gx => (blk r 2 (lst [(.slice (some ⟨b, off, none⟩) xs.length c), (i64 (q + 1))])) :: R) (fun gx => gx < 9223372036854775808) ?_ ?_)))))))))))))))))
 ·
  refine CT.q (TL.m m4 (TL.val (n_gtr n 256 T0 .c) (TL.m m0 ?_)))
  by_cases g44 : 256 < n
  ·
   refine TL.sub (.eq m0 (congrArg Value.bool (decide_eq_true g44)) (.eq m1 (congrArg Value.bool (decide_eq_true g44)) (.cons m2 (.cons m3 (.cons m4 (.cons m5 (.cons m6 (.cons m7 .nil)))))))) (TL.gn m0 (TL.gn m0 (TL.gn m0 (TL.gn m0 (TL.gn m0 (TL.gn m0 (TL.gn m0 (TL.val (r_pickt T0 .c) (TL.b (.hd .u3) (CT.ift m0 ?_))))))))))
   refine CT.sub .u1 (CT.seq ?_)
   have hdv := Nat.div_le_self q xs.length
   obtain ⟨x2, hx2, hl2⟩ := src_get hxs (Nat.mod_lt (q * 7 + 3) (show 0 < xs.length by omega))
   refine CT.still fm (by kernel_rfl) ?_
   refine TS.m m0 (TS.val (n_mul x1 131 9223372036854775808 T0 .c) (TS.m m5 (TS.c m0 (TS.f 0 fo_78_0 m0 (TS.val (r_ld (v := (.slice (some ⟨b, off, none⟩) xs.length c)) Tryz.isAgg22 m0 T0 (by decide) rfl) (TS.m m7 (TS.val (n_mul q 7 9223372036854775808 T0 .c) (TS.val (n_add ((q * 7)) 3 9223372036854775808 T0 .c) (TS.m m12 (TS.c m0 (TS.f 0 fo_78_0 m0 (TS.val (r_ld (v := (.slice (some ⟨b, off, none⟩) xs.length c)) Tryz.isAgg22 m0 T0 (by decide) rfl) (TS.val (r_len Tryz.underlying22 T0) (TS.val (n_rem (((q * 7) + 3)) xs.length T5 T0 rfl rfl (by omega)) (TS.val (r_ia (i := (((q * 7) + 3) % xs.length)) (off' := off + (((q * 7) + 3) % xs.length)) Tryz.underlying22 Tryz.sizeOf5 T9 T0 rfl (Nat.mod_lt _ (by omega)) (by omega)) (TS.val (r_ldc (v := (u8 x2)) Tryz.isAgg5 T0 (fun w hS => hS.base_some (hb _ _ hx2))) (TS.val (n_conv x2 9223372036854775808 ⟨_, Tryz.underlying5⟩ Tryz.underlying3 T0 rfl (by omega)) (TS.val (n_mul x2 1117 9223372036854775808 T0 .c) (TS.val (n_add ((x1 * 131)) ((x2 * 1117)) 9223372036854775808 T17 T0) (TS.m m21 (TS.val (n_mul q 29 9223372036854775808 T0 .c) (TS.val (n_add (((x1 * 131) + (x2 * 1117))) ((q * 29)) 9223372036854775808 T2 T0) (TS.m m24 (TS.val (r_move (.t m27)) (TS.c m0 (TS.f 0 fo_78_0 m0 (TS.val (r_ld (v := (.slice (some ⟨b, off, none⟩) xs.length c)) Tryz.isAgg22 m0 T0 (by decide) rfl) (TS.val (r_len Tryz.underlying22 T0) (TS.val (n_quo q xs.length 9223372036854775808 T5 T0 rfl rfl (by omega) (by omega)) (TS.val (n_mul ((q / xs.length)) 53 9223372036854775808 T0 .c rfl rfl (by have := Nat.div_le_self q xs.length; omega)) (TS.val (n_add ((((x1 * 131) + (x2 * 1117)) + (q * 29))) (((q / xs.length) * 53)) 9223372036854775808 T8 T0 rfl rfl (by have := Nat.div_le_self q xs.length; omega)) (TS.rm (.there (.there (.there (.there (.there (.there (.there (.there (.there (.there (.there (.there (.there (.there (.there (.there (.there (.there (.there (.there (.there (.there (.there (.there (.there (.there (.there (.there (.there (.there (.there (.there .here)))))))))))))))))))))))))))))))) (TS.val (r_asg T0) (TS.nil (TL.b (.hd (.tl (.tl (.tl (.tl (.tl (.tl (.tl (.tl .u24))))))))) (CT.region (TL.m m0 ?_)))))))))))))))))))))))))))))))))))))
   exact TL.m m1 (TL.val (n_quo (((((x1 * 131) + (x2 * 1117)) + (q * 29)) + ((q / xs.length) * 53))) 64 9223372036854775808 T0 .c rfl rfl (by omega) (by omega)) (TL.val (n_xor (((((x1 * 131) + (x2 * 1117)) + (q * 29)) + ((q / xs.length) * 53))) ((((((x1 * 131) + (x2 * 1117)) + (q * 29)) + ((q / xs.length) * 53)) / 64)) 9223372036854775808 T2 T0 rfl rfl (by omega) (by omega)) (TL.rm .h4 (TL.a m0 (TL.x (.hd .u4) (EX.meet ((((((x1 * 131) + (x2 * 1117)) + (q * 29)) + ((q / xs.length) * 53)) ^^^ (((((x1 * 131) + (x2 * 1117)) + (q * 29)) + ((q / xs.length) * 53)) / 64))) (by refine Nat.xor_lt_two_pow (n := 63) ?_ ?_ <;> (have := Nat.div_le_self q xs.length; omega)) (.refl _) (.sl 0 5 rfl)))))))
  refine TL.sub (.eq m0 (congrArg Value.bool (decide_eq_false g44)) (.eq m1 (congrArg Value.bool (decide_eq_false g44)) (.cons m2 (.cons m3 (.cons m4 (.cons m5 (.cons m6 (.cons m7 .nil)))))))) (TL.gv m0 (r_move T4) (TL.gv m1 (r_move T7) (TL.gv m2 (r_nil T0) (TL.gv m3 (r_fa (off' := 0) fo_78_0 T0) (TL.gv m4 (r_ld (v := (.slice (some ⟨b, off, none⟩) xs.length c)) Tryz.isAgg22 m0 T0 (by decide) rfl) (TL.gv m5 (r_len Tryz.underlying22 T0) (TL.gv m6 (n_geq q xs.length T5 T0) (TL.val (r_pickf T7 T0) (TL.b (.hd .u10) (CT.ifd m0 (fun c52 => ?_) (fun c52 => ?_)))))))))))
  ·
   refine CT.sub .u1 (CT.seq ?_)
   have hdv := Nat.div_le_self q xs.length
   obtain ⟨x2, hx2, hl2⟩ := src_get hxs (Nat.mod_lt (q * 7 + 3) (show 0 < xs.length by omega))
   refine CT.still fm (by kernel_rfl) ?_
   refine TS.m m0 (TS.val (n_mul x1 131 9223372036854775808 T0 .c) (TS.m m5 (TS.c m0 (TS.f 0 fo_78_0 m0 (TS.val (r_ld (v := (.slice (some ⟨b, off, none⟩) xs.length c)) Tryz.isAgg22 m0 T0 (by decide) rfl) (TS.m m7 (TS.val (n_mul q 7 9223372036854775808 T0 .c) (TS.val (n_add ((q * 7)) 3 9223372036854775808 T0 .c) (TS.m m12 (TS.c m0 (TS.f 0 fo_78_0 m0 (TS.val (r_ld (v := (.slice (some ⟨b, off, none⟩) xs.length c)) Tryz.isAgg22 m0 T0 (by decide) rfl) (TS.val (r_len Tryz.underlying22 T0) (TS.val (n_rem (((q * 7) + 3)) xs.length T5 T0 rfl rfl (by omega)) (TS.val (r_ia (i := (((q * 7) + 3) % xs.length)) (off' := off + (((q * 7) + 3) % xs.length)) Tryz.underlying22 Tryz.sizeOf5 T9 T0 rfl (Nat.mod_lt _ (by omega)) (by omega)) (TS.val (r_ldc (v := (u8 x2)) Tryz.isAgg5 T0 (fun w hS => hS.base_some (hb _ _ hx2))) (TS.val (n_conv x2 9223372036854775808 ⟨_, Tryz.underlying5⟩ Tryz.underlying3 T0 rfl (by omega)) (TS.val (n_mul x2 1117 9223372036854775808 T0 .c) (TS.val (n_add ((x1 * 131)) ((x2 * 1117)) 9223372036854775808 T17 T0) (TS.m m21 (TS.val (n_mul q 29 9223372036854775808 T0 .c) (TS.val (n_add (((x1 * 131) + (x2 * 1117))) ((q * 29)) 9223372036854775808 T2 T0) (TS.m m24 (TS.val (r_move (.t m27)) (TS.c m0 (TS.f 0 fo_78_0 m0 (TS.val (r_ld (v := (.slice (some ⟨b, off, none⟩) xs.length c)) Tryz.isAgg22 m0 T0 (by decide) rfl) (TS.val (r_len Tryz.underlying22 T0) (TS.val (n_quo q xs.length 9223372036854775808 T5 T0 rfl rfl (by omega) (by omega)) (TS.val (n_mul ((q / xs.length)) 53 9223372036854775808 T0 .c rfl rfl (by have := Nat.div_le_self q xs.length; omega)) (TS.val (n_add ((((x1 * 131) + (x2 * 1117)) + (q * 29))) (((q / xs.length) * 53)) 9223372036854775808 T8 T0 rfl rfl (by have := Nat.div_le_self q xs.length; omega)) (TS.rm (.there (.there (.there (.there (.there (.there (.there (.there (.there (.there (.there (.there (.there (.there (.there (.there (.there (.there (.there (.there (.there (.there (.there (.there (.there (.there (.there (.there (.there (.there (.there (.there .here)))))))))))))))))))))))))))))))) (TS.val (r_asg T0) (TS.nil (TL.b (.hd (.tl (.tl (.tl (.tl (.tl (.tl (.tl (.tl .u24))))))))) (CT.region (TL.m m0 ?_)))))))))))))))))))))))))))))))))))))
   exact TL.m m1 (TL.val (n_quo (((((x1 * 131) + (x2 * 1117)) + (q * 29)) + ((q / xs.length) * 53))) 64 9223372036854775808 T0 .c rfl rfl (by omega) (by omega)) (TL.val (n_xor (((((x1 * 131) + (x2 * 1117)) + (q * 29)) + ((q / xs.length) * 53))) ((((((x1 * 131) + (x2 * 1117)) + (q * 29)) + ((q / xs.length) * 53)) / 64)) 9223372036854775808 T2 T0 rfl rfl (by omega) (by omega)) (TL.rm .h4 (TL.a m0 (TL.x (.hd .u4) (EX.meet ((((((x1 * 131) + (x2 * 1117)) + (q * 29)) + ((q / xs.length) * 53)) ^^^ (((((x1 * 131) + (x2 * 1117)) + (q * 29)) + ((q / xs.length) * 53)) / 64))) (by refine Nat.xor_lt_two_pow (n := 63) ?_ ?_ <;> (have := Nat.div_le_self q xs.length; omega)) (.refl _) (.sl 0 5 rfl)))))))
  exact CT.z (EX.meet x1 (by omega) (.refl _) (.sl 0 5 rfl))
 rintro y hI
 exact CT.q (TL.m m0 (TL.m m5 (TL.val (n_rem y n T1 T0 rfl rfl (by omega)) (TL.rm .h5 (TL.a m0 (TL.b (.hd .u3) (CT.ret (EX.end_ (.inl rfl) (res1 Tryz.results39 m0) (fun _ hS => ⟨(y % n), rfl, Nat.lt_of_lt_of_le (Nat.mod_lt _ (by omega)) (by omega), Sat.toRdr hsrc (by omega) hS⟩)))))))))
end Go.Eng
namespace Go.Eng
open Go Go.Proofs Go.Infl
theorem t52 (p : Nat) (v : Value) (xs : List Nat) (f : Bool) (x : Nat) (bs : List Bool) (hb : bs.length + 8 * xs.length + 64 < 1099511627776) (hl : xs.length ≤ 65535) (hx : x < 9223372036854775808) (hxs : ∀ x ∈ xs, x < 256) {G : World} {R : List HProp} {w : World} (hS : Sat G w (slc 1 v xs.length (xs.map u8) :: Wr p bs :: R)) :
 CallsR Tryz.prog 52 #[(pt p 0), v, (.bool f), (i64 x)] w (fun r w' => r = .tuple #[] ∧ ∃ ps : List Bool, ps.length < 8 ∧ (bs.length + 3 + ps.length) % 8 = 0 ∧ Sat G w' (slc 1 v xs.length (xs.map u8) :: Wr p (bs ++ storedBits f ps xs) :: R)) := by
 have hf := flag_lt f
 refine calls_in (n := 37) [(0, (pt p 0)), (1, v), (2, (.bool f)), (3, (i64 x))] Tryz.func52 rfl rfl hS args4 ?_
 refine CT.q (TL.m m0 (TL.m m3 (TL.call (r_call ce_77 (.cons T0 .nil)) (fun w hS => t77 f hS) ?_)))
 rintro _ w12 ⟨rfl, hS⟩
 refine TW.at hS (TL.perm p1 (TL.call (r_call ce_37 (.cons T2 (.cons T0 (.cons .c .nil)))) (fun w hS => t37 p ((Bool.toNat f)) 3 bs (by (try simp only [List.length_append, nbits_length, cbits_length, bits8_length, List.length_take, List.length_singleton, List.length_nil] at *); omega) (by omega) (by omega) hS) ?_))
 rintro _ w13 ⟨rfl, hS⟩
 refine TW.at hS (TL.r (.tl (.tl (.tl (.tl (.hd (.hd .u1)))))) (TL.m m0 (TL.m m3 (TL.call (r_call ce_57 (.cons T1 (.cons T0 .nil))) (fun w hS => t57 p x (bs ++ nbits 3 ((Bool.toNat f))) (by (try simp only [List.length_append, nbits_length, cbits_length, bits8_length, List.length_take, List.length_singleton, List.length_nil] at *); omega) (by omega) hS) ?_))))
 rintro _ w16 ⟨rfl, ps16, ps16_l, ps16_m, hS⟩
 refine TW.at hS (TL.r (.tl (.tl (.tl (.hd (.hd .u1))))) (TL.m m0 (TL.m m2 (TL.val (r_lens Tryz.underlying22 T0 m1) (TL.call (r_call ce_37 (.cons T2 (.cons T0 (.cons .c .nil)))) (fun w hS => t37 p xs.length 16 ((bs ++ nbits 3 ((Bool.toNat f))) ++ ps16) (by (try simp only [List.length_append, nbits_length, cbits_length, bits8_length, List.length_take, List.length_singleton, List.length_nil] at *); omega) (by omega) (by omega) hS) ?_)))))
 rintro _ w20 ⟨rfl, hS⟩
 refine TW.at hS (TL.r .u4 (TL.m m0 (TL.m m2 (TL.val (r_lens Tryz.underlying22 T0 m1) (TL.val (n_sub 65535 xs.length 9223372036854775808 .c T0) (TL.call (r_call ce_37 (.cons T3 (.cons T0 (.cons .c .nil)))) (fun w hS => t37 p ((65535 - xs.length)) 16 (((bs ++ nbits 3 ((Bool.toNat f))) ++ ps16) ++ nbits 16 xs.length) (by (try simp only [List.length_append, nbits_length, cbits_length, bits8_length, List.length_take, List.length_singleton, List.length_nil] at *); omega) (by omega) (by omega) hS) ?_))))))
 rintro _ w25 ⟨rfl, hS⟩
 refine TW.at hS (TL.r .u5 (TL.m m1 (TL.val (r_lens Tryz.underlying22 T0 m1) (TL.val (r_move .c) (TL.e (CT.block (CT.fold (A' := (Wr p ((bs ++ nbits 3 (Bool.toNat f) ++ ps16 ++ nbits 16 xs.length ++ nbits 16 (65535 - xs.length)) ++ (xs.take 0).flatMap (nbits 8)))) a0 (Wr_eq (by simp)) (CT.perm p1 (CT.loop (X := Nat) (fun gx => [(28, (i64 gx)), (27, (i64 xs.length)), (26, v), (0, (pt p 0)), (1, v)]) (fun gx => (slc 1 v xs.length (xs.map u8)) :: Wr p ((bs ++ nbits 3 (Bool.toNat f) ++ ps16 ++ nbits 16 xs.length ++ nbits 16 (65535 - xs.length)) ++ (xs.take gx).flatMap (nbits 8)) :: R) (fun gx => gx ≤ xs.length) (fun gx => xs.length - gx) 0 (by omega) (.refl _) (.sl 0 5 rfl) ?_)))))))))
 rintro k hI
 refine CT.q (TL.val (n_lss k xs.length T0 T1) (TL.e (CT.seq (CT.ifd m0 (fun c29 => ?_) (fun c29 => ?_)))))
 ·
  refine CT.z (EX.seq (CT.seq (CT.block (CT.seq ?_))))
  obtain ⟨x1, hx1, hl1⟩ := src_get hxs c29
  refine CT.peek m0 (by omega) ?_
  intro d d_c d_v d_k d_l
  refine CT.region (TL.val (r_ia (i := k) (off' := k) Tryz.underlying22 Tryz.sizeOf5 (.te m2 d_v) T0 rfl (by omega) (by omega)) (TL.val (r_lds (u := (u8 x1)) Tryz.isAgg5 m0 d_v T0 (by rw [List.getElem?_map, hx1]; rfl)) ?_))
  refine TL.a m0 (TL.b (.hd .u2) (CT.region (TL.m m4 (TL.m m1 (TL.val (n_conv x1 9223372036854775808 ⟨_, Tryz.underlying5⟩ Tryz.underlying3 T0 rfl (by omega)) (TL.perm p1 (TL.call (r_call ce_37 (.cons T2 (.cons T0 (.cons .c .nil)))) (fun w hS => t37 p x1 8 ((bs ++ nbits 3 (Bool.toNat f) ++ ps16 ++ nbits 16 xs.length ++ nbits 16 (65535 - xs.length)) ++ (xs.take k).flatMap (nbits 8)) (by (try simp only [List.length_append, nbits_length, cbits_length, bits8_length, List.length_take, List.length_singleton, List.length_nil] at *); omega) (by omega) (by omega) hS) ?_)))))))
  rintro _ w35 ⟨rfl, hS⟩
  exact TW.at hS (TL.x .u4 (EX.bnormal (EX.seq (CT.region (TL.val (n_add k 1 9223372036854775808 T1 .c) (TL.rm .h2 (TL.m m0 (TL.x (.hd .u1) (EX.fold (A' := (Wr p ((bs ++ nbits 3 (Bool.toNat f) ++ ps16 ++ nbits 16 xs.length ++ nbits 16 (65535 - xs.length)) ++ (xs.take (k + 1)).flatMap (nbits 8)))) a0 (Wr_eq (by rw [List.take_add_one, hx1, List.flatMap_append]; simp)) (EX.perm p1 (EX.again (k + 1) (by omega) (by omega) (.refl _) (.eq m0 (by first | rfl | (congr 1 <;> omega)) (.sl 2 4 rfl)))))))))))))
 exact CT.sub .u1 (CT.exit (EX.then_exit (EX.then_exit (EX.out (EX.end_ (.inr rfl) (res0 Tryz.results52) (fun _ hS => ⟨rfl, ps16, ps16_l, by simp only [List.length_append, nbits_length] at ps16_m; omega, by obtain rfl : k = xs.length := (by omega); rw [List.take_length] at hS; simpa only [storedBits, List.append_assoc] using hS⟩))))))
end Go.Eng
namespace Go.Infl
inductive It where
 | lit (b : Nat)
 | mat (n d : Nat)
def copyM (h : List Nat) (d : Nat) : Nat → List Nat
 | 0 => h
 | n + 1 => copyM h d n ++ [(copyM h d n).getD ((copyM h d n).length - d) 0]
def gives (h : List Nat) : List It → List Nat
 | [] => h
 | .lit b :: r => gives (h ++ [b]) r
 | .mat n d :: r => gives (copyM h d n) r
def ItOk (n : Nat) : List It → Prop
 | [] => True
 | .lit b :: r => b < 256 ∧ ItOk (n + 1) r
 | .mat l d :: r => (3 ≤ l ∧ l ≤ 258 ∧ 1 ≤ d ∧ d ≤ n ∧ d ≤ 32768) ∧ ItOk (n + l) r
theorem copyM_length (h : List Nat) (d : Nat) : ∀ n, (copyM h d n).length = h.length + n
 | 0 => rfl
 | n + 1 => by rw [copyM, List.length_append, copyM_length h d n]; rfl
theorem copyM_bytes {h : List Nat} {d : Nat} (hh : ∀ x ∈ h, x < 256) : ∀ n, ∀ x ∈ copyM h d n, x < 256
 | 0 => hh
 | n + 1 => by
  intro x hx
  rcases List.mem_append.1 hx with hx | hx
  ·
   exact copyM_bytes hh n x hx
  rw [List.mem_singleton.1 hx]
  rw [List.getD_eq_getElem?_getD]
  cases e : (copyM h d n)[(copyM h d n).length - d]? with
  | none => decide
  | some y => exact copyM_bytes hh n y (List.mem_of_getElem? e)
theorem gives_bytes : ∀ (l : List It) (h : List Nat) (n : Nat), ItOk n l → (∀ x ∈ h, x < 256) → ∀ x ∈ gives h l, x < 256
 | [], _, _, _, hh => hh
 | .lit b :: r, h, n, H, hh => gives_bytes r (h ++ [b]) (n + 1) H.2 (by
  intro x hx
  rcases List.mem_append.1 hx with hx | hx
  ·
   exact hh x hx
  rw [List.mem_singleton.1 hx]; exact H.1)
 | .mat l d :: r, h, n, H, hh => gives_bytes r (copyM h d l) (n + l) H.2 (copyM_bytes hh l)
def itSize : List It → Nat
 | [] => 0
 | .lit _ :: r => itSize r + 1
 | .mat l _ :: r => itSize r + l
theorem itSize_le : ∀ (l : List It) (n : Nat), ItOk n l → itSize l ≤ 258 * l.length
 | [], _, _ => Nat.zero_le _
 | .lit b :: r, n, H => by
  have := itSize_le r (n + 1) H.2
  simp only [itSize, List.length_cons]; omega
 | .mat l d :: r, n, H => by
  have := itSize_le r (n + l) H.2
  have := H.1
  simp only [itSize, List.length_cons]; omega
theorem ItOk.snoc : ∀ {l : List It} {n : Nat} {x : It}, ItOk n l → ItOk (n + itSize l) [x] → ItOk n (l ++ [x])
 | [], n, x, _, hx => hx
 | .lit b :: r, n, x, H, hx => ⟨H.1, ItOk.snoc H.2 (by rw [show n + 1 + itSize r = n + itSize (.lit b :: r) by simp only [itSize]; omega]; exact hx)⟩
 | .mat l d :: r, n, x, H, hx => ⟨H.1, ItOk.snoc H.2 (by rw [show n + l + itSize r = n + itSize (.mat l d :: r) by simp only [itSize]; omega]; exact hx)⟩
theorem itSize_snoc_lit {b : Nat} : ∀ {l : List It}, itSize (l ++ [.lit b]) = itSize l + 1
 | [] => rfl
 | .lit c :: r => by simp only [List.cons_append, itSize, itSize_snoc_lit (l := r)]
 | .mat l d :: r => by simp only [List.cons_append, itSize, itSize_snoc_lit (l := r)]; omega
theorem itSize_snoc_mat {n d : Nat} : ∀ {l : List It}, itSize (l ++ [.mat n d]) = itSize l + n
 | [] => by simp [itSize]
 | .lit c :: r => by simp only [List.cons_append, itSize, itSize_snoc_mat (l := r)]; omega
 | .mat l d :: r => by simp only [List.cons_append, itSize, itSize_snoc_mat (l := r)]; omega
theorem gives_length : ∀ (l : List It) (h : List Nat), (gives h l).length = h.length + itSize l
 | [], h => rfl
 | .lit b :: r, h => by simp only [gives, itSize, gives_length r, List.length_append, List.length_singleton]; omega
 | .mat n d :: r, h => by simp only [gives, itSize, gives_length r, copyM_length]; omega
theorem gives_append : ∀ (l r : List It) (h : List Nat), gives h (l ++ r) = gives (gives h l) r
 | [], _, _ => rfl
 | .lit b :: l, r, h => by simp only [List.cons_append, gives, gives_append l r]
 | .mat n d :: l, r, h => by simp only [List.cons_append, gives, gives_append l r]
theorem gives_step {l : List It} {k : Nat} {x : It} (h : List Nat) (hx : l[k]? = some x) : gives h (l.take (k + 1)) = gives (gives h (l.take k)) [x] := by
 rw [List.take_add_one, hx, gives_append]; rfl
theorem ItOk.at_ : ∀ {l : List It} {n k : Nat} {x : It}, ItOk n l → l[k]? = some x → ItOk (n + itSize (l.take k)) [x]
 | [], _, _, _, _, hx => by simp at hx
 | .lit b :: r, n, 0, x, H, hx => by
  obtain rfl : It.lit b = x := by simpa using hx
  exact ⟨H.1, trivial⟩
 | .mat l d :: r, n, 0, x, H, hx => by
  obtain rfl : It.mat l d = x := by simpa using hx
  exact ⟨H.1, trivial⟩
 | .lit b :: r, n, k + 1, x, H, hx => by
  have := ItOk.at_ (k := k) H.2 (by simpa using hx)
  rwa [show n + 1 + itSize (r.take k) = n + itSize ((It.lit b :: r).take (k + 1)) by simp only [List.take_succ_cons, itSize]; omega] at this
 | .mat l d :: r, n, k + 1, x, H, hx => by
  have := ItOk.at_ (k := k) H.2 (by simpa using hx)
  rwa [show n + l + itSize (r.take k) = n + itSize ((It.mat l d :: r).take (k + 1)) by simp only [List.take_succ_cons, itSize]; omega] at this
theorem copyM_succ {h : List Nat} {d j x : Nat} (hx : (copyM h d j)[(copyM h d j).length - d]? = some x) : copyM h d j ++ [x] = copyM h d (j + 1) := by
 rw [copyM, List.getD_eq_getElem?_getD, hx]; rfl
def lenBase (k : Nat) : Nat := if k = 285 then 258 else if k ≤ 264 then k - 254 else 3 + (4 + (k - 261) % 4) * 2 ^ ((k - 261) / 4)
def lenExtra (k : Nat) : Nat := if k = 285 then 0 else if k ≤ 264 then 0 else (k - 261) / 4
def distBase (k : Nat) : Nat := if k ≤ 3 then k + 1 else 1 + (2 + k % 2) * 2 ^ (k / 2 - 1)
def distExtra (k : Nat) : Nat := if k ≤ 3 then 0 else k / 2 - 1
def LenAt (n k v : Nat) : Prop := 257 ≤ k ∧ k ≤ 285 ∧ lenBase k + v = n ∧ v < 2 ^ lenExtra k ∧ ¬ (k = 284 ∧ v = 31)
def DistAt (d k v : Nat) : Prop := k ≤ 29 ∧ distBase k + v = d ∧ v < 2 ^ distExtra k
theorem len_next : ∀ k, k < 284 → 257 ≤ k → lenBase (k + 1) = lenBase k + 2 ^ lenExtra k := by
 intro k h1 h2
 have : ∀ j, j < 27 → lenBase (257 + j + 1) = lenBase (257 + j) + 2 ^ lenExtra (257 + j) := by decide
 have e := this (k - 257) (by omega)
 rwa [show 257 + (k - 257) = k by omega] at e
theorem dist_next : ∀ k, k < 29 → distBase (k + 1) = distBase k + 2 ^ distExtra k := by decide
end Go.Infl
namespace Go.Infl
def fl (i : Nat) : Nat := if 144 ≤ i ∧ i ≤ 255 then 9 else if 256 ≤ i ∧ i ≤ 279 then 7 else 8
def fixLit : List Nat := (List.range 288).map fl
def fixDist : List Nat := List.replicate 32 5
def nx (ls : List Nat) : Nat → Nat
 | 0 => 0
 | n + 1 => 2 * nx ls n + (if n = 0 then 0 else ls.count n)
def codeOf (ls : List Nat) (i : Nat) : Nat := 2 * nx ls (ls.getD i 0) + (ls.take i).count (ls.getD i 0)
def cpart (ls : List Nat) (n j i : Nat) : Nat := if 1 ≤ ls.getD i 0 ∧ (ls.getD i 0 < n ∨ ls.getD i 0 = n ∧ i < j) then codeOf ls i else 0
def codes (ls : List Nat) : List Nat := (List.range ls.length).map (cpart ls 16 0)
theorem nx_le (ls : List Nat) : ∀ n, nx ls n ≤ (2 ^ n - 1) * ls.length
 | 0 => by simp [nx]
 | n + 1 => by
  have ih := nx_le ls n
  have h1 : (if n = 0 then 0 else ls.count n) ≤ ls.length := by split; exact Nat.zero_le _; exact List.count_le_length
  have e : 2 ^ (n + 1) - 1 = 2 * (2 ^ n - 1) + 1 := by have := Nat.two_pow_pos n; rw [Nat.pow_succ]; omega
  rw [nx, e, Nat.add_mul, Nat.mul_assoc, Nat.one_mul]
  omega
theorem nx_lt {ls : List Nat} {n : Nat} (h : n ≤ 16) (hl : ls.length ≤ 1024) : nx ls n ≤ 67108864 := by
 refine Nat.le_trans (nx_le ls n) ?_
 have : 2 ^ n ≤ 2 ^ 16 := Nat.pow_le_pow_right (by decide) h
 calc (2 ^ n - 1) * ls.length ≤ 65536 * 1024 := Nat.mul_le_mul (by omega) hl
  _ = 67108864 := rfl
theorem take_count_succ {ls : List Nat} {j l n : Nat} (h : ls[j]? = some l) : (ls.take (j + 1)).count n = (ls.take j).count n + (if l = n then 1 else 0) := by
 rw [List.take_add_one, h, List.count_append]
 by_cases e : l = n
 ·
  subst e; simp
 rw [if_neg e]
 simp [List.count_cons, e]
theorem part_step {ls : List Nat} {n j l : Nat} (h : ls[j]? = some l) (hn : 1 ≤ n) (hl : l = n) : ∀ i, cpart ls n (j + 1) i = if i = j then 2 * nx ls n + (ls.take j).count n else cpart ls n j i := by
 intro i
 have hj : ls.getD j 0 = l := by rw [List.getD_eq_getElem?_getD, h]; rfl
 unfold cpart
 by_cases e : i = j
 ·
  subst e
  rw [if_pos rfl, hj, if_pos (by omega)]
  unfold codeOf
  rw [hj, hl]
 rw [if_neg e]
 congr 1
 apply propext
 omega
theorem part_same {ls : List Nat} {n j l : Nat} (h : ls[j]? = some l) (hl : ¬ l = n) : ∀ i, cpart ls n (j + 1) i = cpart ls n j i := by
 intro i
 have hj : ls.getD j 0 = l := by rw [List.getD_eq_getElem?_getD, h]; rfl
 unfold cpart
 congr 1
 apply propext
 constructor
 ·
  rintro ⟨h1, h2⟩
  refine ⟨h1, ?_⟩
  rcases h2 with h2 | ⟨h2, h3⟩
  ·
   exact .inl h2
  refine .inr ⟨h2, ?_⟩
  rcases Nat.lt_or_ge i j with h4 | h4
  ·
   exact h4
  obtain rfl : i = j := by omega
  exact absurd (hj ▸ h2) hl
 rintro ⟨h1, h2⟩
 exact ⟨h1, by omega⟩
theorem part_next {ls : List Nat} {n : Nat} : ∀ i, i < ls.length → cpart ls n ls.length i = cpart ls (n + 1) 0 i := by
 intro i hi
 unfold cpart
 congr 1
 apply propext
 omega
end Go.Infl
namespace Go.Infl
def LOk (ls : List Nat) (k : Nat) : Prop := k < ls.length ∧ 1 ≤ ls.getD k 0 ∧ ls.getD k 0 ≤ 15
def symB (ls : List Nat) (k : Nat) : List Bool := cbits (ls.getD k 0) (codeOf ls k)
inductive ItB (ls ds : List Nat) : It → List Bool → Prop
 | lit {b : Nat} : LOk ls b → ItB ls ds (.lit b) (symB ls b)
 | mat {n d k v k' v' : Nat} : LenAt n k v → DistAt d k' v' → LOk ls k → LOk ds k' → ItB ls ds (.mat n d) (symB ls k ++ nbits (lenExtra k) v ++ symB ds k' ++ nbits (distExtra k') v')
inductive ItBits (ls ds : List Nat) : List It → List Bool → Prop
 | nil : ItBits ls ds [] []
 | cons {x : It} {l : List It} {b bs : List Bool} : ItB ls ds x b → ItBits ls ds l bs → ItBits ls ds (x :: l) (b ++ bs)
theorem ItBits.snoc {ls ds : List Nat} {l : List It} {x : It} {b bs : List Bool} (H : ItBits ls ds l bs) (hb : ItB ls ds x b) : ItBits ls ds (l ++ [x]) (bs ++ b) := by
 induction H with
 | nil => simpa using ItBits.cons hb .nil
 | cons h1 _ ih => rw [List.append_assoc]; exact .cons h1 ih
def Needs (ls ds : List Nat) : It → Prop
 | .lit b => LOk ls b
 | .mat n d => (∀ k v, LenAt n k v → LOk ls k) ∧ ∀ k v, DistAt d k v → LOk ds k
theorem cpart_ok {ls : List Nat} {k : Nat} (h : LOk ls k) : cpart ls 16 0 k = codeOf ls k := by
 unfold cpart; rw [if_pos ⟨h.2.1, by have := h.2.2; omega⟩]
theorem codeOf_lt {ls : List Nat} {k : Nat} (h : LOk ls k) (hl : ls.length ≤ 1024) : codeOf ls k < 268435456 := by
 have := nx_lt (ls := ls) (n := ls.getD k 0) (by have := h.2.2; omega) hl
 have h2 : (ls.take k).count (ls.getD k 0) ≤ 1024 := Nat.le_trans List.count_le_length (by rw [List.length_take]; omega)
 unfold codeOf
 omega
theorem codes_get {ls : List Nat} {k : Nat} (h : LOk ls k) : (codes ls)[k]? = some (codeOf ls k) := by
 unfold codes
 rw [List.getElem?_map, List.getElem?_range h.1]
 show some (cpart ls 16 0 k) = _
 rw [cpart_ok h]
theorem lens_get {ls : List Nat} {k : Nat} (h : LOk ls k) : ls[k]? = some (ls.getD k 0) := by
 rw [List.getD_eq_getElem?_getD, List.getElem?_eq_getElem h.1]; rfl
theorem symB_length (ls : List Nat) (k : Nat) : (symB ls k).length = ls.getD k 0 := cbits_length _ _
theorem lenExtra_le : ∀ k, k ≤ 285 → lenExtra k ≤ 6 := by
 intro k h; unfold lenExtra; split; omega; split <;> omega
theorem distExtra_le : ∀ k, k ≤ 29 → distExtra k ≤ 13 := by
 intro k h; unfold distExtra; split <;> omega
theorem ItB.len {ls ds : List Nat} {x : It} {b : List Bool} (H : ItB ls ds x b) : 1 ≤ b.length ∧ b.length ≤ 64 := by
 cases H with
 | lit h => rw [symB_length]; have := h.2; omega
 | @mat n d k v k' v' h1 h2 h3 h4 =>
  simp only [List.length_append, symB_length, nbits_length]
  have := lenExtra_le k h1.2.1
  have := distExtra_le k' h2.1
  have := h3.2; have := h4.2
  omega
end Go.Infl
namespace Go.Infl
def ordr : List Nat := [16, 17, 18, 0, 8, 7, 9, 6, 10, 5, 11, 4, 12, 3, 13, 2, 14, 1, 15]
def rnBits (k : Nat) : Nat := if k = 16 then 2 else if k = 17 then 3 else if k = 18 then 7 else 0
def rnMany (k v : Nat) : Nat := if k = 16 then 3 + v else if k = 17 then 3 + v else if k = 18 then 11 + v else 1
def rnVal (acc : List Nat) (k : Nat) : Nat := if k = 16 then acc.getD (acc.length - 1) 0 else if k = 17 then 0 else if k = 18 then 0 else k
def rnExp (acc : List Nat) (k v : Nat) : List Nat := acc ++ List.replicate (rnMany k v) (rnVal acc k)
inductive RunB (own : List Nat) : List Nat → List Bool → List Nat → Prop
 | nil {acc : List Nat} : RunB own acc [] acc
 | cons {acc acc' : List Nat} {k v : Nat} {bs : List Bool} : LOk own k → v < 2 ^ rnBits k → (k = 16 → acc ≠ []) → RunB own (rnExp acc k v) bs acc' → RunB own acc (symB own k ++ (nbits (rnBits k) v ++ bs)) acc'
theorem RunB.snoc {own acc acc' : List Nat} {bs : List Bool} {k v : Nat} (H : RunB own acc bs acc') (hk : LOk own k) (hv : v < 2 ^ rnBits k) (h16 : k = 16 → acc' ≠ []) : RunB own acc (bs ++ (symB own k ++ nbits (rnBits k) v)) (rnExp acc' k v) := by
 induction H with
 | nil => have := RunB.cons (bs := []) hk hv h16 .nil; simpa using this
 | cons h1 h2 h3 _ ih =>
  have := RunB.cons h1 h2 h3 (ih h16)
  simpa only [List.append_assoc] using this
theorem rnMany_pos (k v : Nat) : 1 ≤ rnMany k v := by unfold rnMany; split; omega; split; omega; split <;> omega
theorem rnExp_length (acc : List Nat) (k v : Nat) : (rnExp acc k v).length = acc.length + rnMany k v := by unfold rnExp; rw [List.length_append, List.length_replicate]
theorem RunB.len {own acc acc' : List Nat} {bs : List Bool} (H : RunB own acc bs acc') : acc.length ≤ acc'.length := by
 induction H with
 | nil => exact Nat.le_refl _
 | cons _ _ _ _ ih => rw [rnExp_length] at ih; omega
def OwnHd (hb : List Bool) (own : List Nat) (nl nd : Nat) : Prop := ∃ many, own.length = 19 ∧ (∀ x ∈ own, x ≤ 7) ∧ 4 ≤ many ∧ many ≤ 19 ∧ (∀ i, many ≤ i → i < 19 → own.getD (ordr.getD i 0) 0 = 0) ∧ 257 ≤ nl ∧ nl ≤ 286 ∧ 1 ≤ nd ∧ nd ≤ 30 ∧
 hb = nbits 5 (nl - 257) ++ (nbits 5 (nd - 1) ++ (nbits 4 (many - 4) ++ (ordr.take many).flatMap (fun o => nbits 3 (own.getD o 0))))
def Full (ls : List Nat) : Prop := nx ls 16 = 2 ^ 15
def Over (ls : List Nat) : Prop := 2 ^ 15 < nx ls 16
def Told (hb : List Bool) (lit dist : List Nat) : Prop := ∃ own hb0 rb, hb = hb0 ++ rb ∧ OwnHd hb0 own lit.length dist.length ∧ Full own ∧ RunB own [] rb (lit ++ dist) ∧ (∀ x ∈ lit ++ dist, x ≤ 15) ∧ LOk lit 256
inductive Head (fin : Bool) : List Bool → List Nat → List Nat → Prop
 | fixed : Head fin (nbits 3 (Bool.toNat fin + 2)) fixLit fixDist
 | dyn {hb : List Bool} {lit dist : List Nat} : Told hb lit dist → Full lit → (Full dist ∨ ∀ x ∈ dist, x = 0) → Head fin (nbits 3 (Bool.toNat fin + 4) ++ hb) lit dist
inductive IsBlk : Nat → Bool → List Nat → List Bool → List Nat → Prop
 | stored {pos : Nat} {fin : Bool} {h : List Nat} {ps : List Bool} {xs : List Nat} : ps.length < 8 → (pos + 3 + ps.length) % 8 = 0 → xs.length ≤ 65535 → (∀ x ∈ xs, x < 256) → IsBlk pos fin h (storedBits fin ps xs) (h ++ xs)
 | huff {pos : Nat} {fin : Bool} {h : List Nat} {hd b1 : List Bool} {ls ds : List Nat} {its : List It} : Head fin hd ls ds → ItOk h.length its → ItBits ls ds its b1 → IsBlk pos fin h (hd ++ (b1 ++ symB ls 256)) (gives h its)
inductive BadSym (ls ds : List Nat) (n : Nat) : List Bool → Prop
 | never {k : Nat} {rest : List Bool} : 286 ≤ k → LOk ls k → BadSym ls ds n (symB ls k ++ rest)
 | neverD {l k v k' : Nat} {rest : List Bool} : LenAt l k v → LOk ls k → 30 ≤ k' → LOk ds k' → BadSym ls ds n (symB ls k ++ (nbits (lenExtra k) v ++ (symB ds k' ++ rest)))
 | far {l d k v k' v' : Nat} {rest : List Bool} : LenAt l k v → LOk ls k → DistAt d k' v' → LOk ds k' → n < d → BadSym ls ds n (symB ls k ++ (nbits (lenExtra k) v ++ (symB ds k' ++ (nbits (distExtra k') v' ++ rest))))
inductive IsBad : Nat → List Nat → List Bool → List Nat → Prop
 | type3 {pos : Nat} {h : List Nat} {f : Bool} {rest : List Bool} : IsBad pos h (nbits 3 (Bool.toNat f + 6) ++ rest) h
 | notLen {pos n m : Nat} {h : List Nat} {f : Bool} {ps rest : List Bool} : ps.length < 8 → (pos + 3 + ps.length) % 8 = 0 → n < 65536 → m < 65536 → n + m ≠ 65535 → IsBad pos h (nbits 3 (Bool.toNat f) ++ (ps ++ (nbits 16 n ++ (nbits 16 m ++ rest)))) h
 | huff {pos : Nat} {h : List Nat} {f : Bool} {hd b1 tl : List Bool} {ls ds : List Nat} {its : List It} : Head f hd ls ds → ItOk h.length its → ItBits ls ds its b1 → BadSym ls ds (gives h its).length tl → ls.getD 256 0 ≤ tl.length → IsBad pos h (hd ++ (b1 ++ tl)) (gives h its)
 | own {pos nl nd : Nat} {h : List Nat} {f : Bool} {hb rest : List Bool} {own : List Nat} : OwnHd hb own nl nd → Over own → IsBad pos h (nbits 3 (Bool.toNat f + 4) ++ (hb ++ rest)) h
 | run {pos nl nd k v : Nat} {h : List Nat} {f : Bool} {hb rb rest : List Bool} {own acc : List Nat} : OwnHd hb own nl nd → Full own → RunB own [] rb acc → acc.length < nl + nd → LOk own k → v < 2 ^ rnBits k → (k = 16 ∧ acc = [] ∨ (k = 16 → acc ≠ []) ∧ nl + nd < (rnExp acc k v).length) →
  IsBad pos h (nbits 3 (Bool.toNat f + 4) ++ (hb ++ (rb ++ (symB own k ++ (nbits (rnBits k) v ++ rest))))) h
 | over {pos : Nat} {h : List Nat} {f : Bool} {hb rest : List Bool} {lit dist : List Nat} : Told hb lit dist → (Over lit ∨ Full lit ∧ Over dist) → IsBad pos h (nbits 3 (Bool.toNat f + 4) ++ (hb ++ rest)) h
theorem IsBlk.bytes {pos : Nat} {fin : Bool} {h h' : List Nat} {b : List Bool} (H : IsBlk pos fin h b h') (hh : ∀ x ∈ h, x < 256) : ∀ x ∈ h', x < 256 := by
 cases H with
 | stored _ _ _ h4 => intro x hx; rcases List.mem_append.1 hx with h | h; exact hh x h; exact h4 x h
 | huff _ h2 _ => exact gives_bytes _ _ _ h2 hh
theorem IsBad.bytes {pos : Nat} {h h' : List Nat} {b : List Bool} (H : IsBad pos h b h') (hh : ∀ x ∈ h, x < 256) : ∀ x ∈ h', x < 256 := by
 cases H with
 | huff _ h2 _ _ _ => exact gives_bytes _ _ _ h2 hh
 | _ => exact hh
inductive Blks : Nat → List Bool → List Nat → List Nat → Prop
 | nil {pos : Nat} {h : List Nat} : Blks pos [] h h
 | cons {pos : Nat} {h h1 h2 : List Nat} {b bs : List Bool} : IsBlk pos false h b h1 → Blks (pos + b.length) bs h1 h2 → Blks pos (b ++ bs) h h2
theorem Blks.snoc {pos : Nat} {h h1 h2 : List Nat} {b bs : List Bool} (H : Blks pos bs h h1) (hb : IsBlk (pos + bs.length) false h1 b h2) : Blks pos (bs ++ b) h h2 := by
 induction H with
 | nil => simpa using Blks.cons hb .nil
 | cons H1 _ ih =>
  rw [List.append_assoc]
  refine .cons H1 (ih ?_)
  rw [List.length_append, ← Nat.add_assoc] at hb
  exact hb
theorem Blks.bytes {pos : Nat} {h h' : List Nat} {b : List Bool} (H : Blks pos b h h') (hh : ∀ x ∈ h, x < 256) : ∀ x ∈ h', x < 256 := by
 induction H with
 | nil => exact hh
 | cons H1 _ ih => exact ih (H1.bytes hh)
def Strm (pos : Nat) (bits : List Bool) (h : List Nat) (hF : List Nat × Bool) : Prop := ∃ b1 b2 h1, bits = b1 ++ b2 ∧ Blks pos b1 h h1 ∧ (hF.2 = true ∧ IsBlk (pos + b1.length) true h1 b2 hF.1 ∨ hF.2 = false ∧ IsBad (pos + b1.length) h1 b2 hF.1)
theorem Head.len {fin : Bool} {hd : List Bool} {ls ds : List Nat} (H : Head fin hd ls ds) : 3 ≤ hd.length := by
 cases H with
 | fixed => rw [nbits_length]; decide
 | dyn => rw [List.length_append, nbits_length]; omega
theorem gives_le (h : List Nat) (l : List It) : h.length ≤ (gives h l).length := by rw [gives_length]; omega
theorem IsBlk.len {pos : Nat} {fin : Bool} {h h' : List Nat} {b : List Bool} (H : IsBlk pos fin h b h') : h.length ≤ h'.length ∧ 3 ≤ b.length := by
 cases H with
 | stored => rw [List.length_append, storedBits_length]; omega
 | huff h1 => have := h1.len; have := gives_le h; rw [List.length_append]; exact ⟨gives_le _ _, by omega⟩
theorem IsBad.len {pos : Nat} {h h' : List Nat} {b : List Bool} (H : IsBad pos h b h') : h.length ≤ h'.length ∧ 3 ≤ b.length := by
 cases H with
 | huff h1 => have := h1.len; rw [List.length_append]; exact ⟨gives_le _ _, by omega⟩
 | _ => simp only [List.length_append, nbits_length]; omega
theorem Blks.len {pos : Nat} {h h' : List Nat} {b : List Bool} (H : Blks pos b h h') : h.length ≤ h'.length := by
 induction H with
 | nil => exact Nat.le_refl _
 | cons H1 _ ih => exact Nat.le_trans H1.len.1 ih
theorem Strm.len {pos : Nat} {h : List Nat} {hF : List Nat × Bool} {b : List Bool} (H : Strm pos b h hF) : h.length ≤ hF.1.length := by
 obtain ⟨_, _, _, _, h1, h2⟩ := H
 rcases h2 with ⟨_, h2⟩ | ⟨_, h2⟩
 ·
  exact Nat.le_trans h1.len h2.len.1
 exact Nat.le_trans h1.len h2.len.1
theorem Strm.bytes {pos : Nat} {h : List Nat} {hF : List Nat × Bool} {b : List Bool} (H : Strm pos b h hF) (hh : ∀ x ∈ h, x < 256) : ∀ x ∈ hF.1, x < 256 := by
 obtain ⟨_, _, _, _, h1, h2⟩ := H
 rcases h2 with ⟨_, h2⟩ | ⟨_, h2⟩
 ·
  exact h2.bytes (h1.bytes hh)
 exact h2.bytes (h1.bytes hh)
theorem Strm.head {pos : Nat} {h : List Nat} {hF : List Nat × Bool} {bits : List Bool} (H : Strm pos bits h hF) :
 (∃ fin b rest h1, bits = b ++ rest ∧ IsBlk pos fin h b h1 ∧ h1.length ≤ hF.1.length ∧ (fin = true → rest = [] ∧ h1 = hF.1 ∧ hF.2 = true) ∧ (fin = false → Strm (pos + b.length) rest h1 hF)) ∨ (hF.2 = false ∧ IsBad pos h bits hF.1) := by
 obtain ⟨b1, b2, h1, rfl, H1, H2⟩ := H
 cases H1 with
 | nil =>
  rcases H2 with ⟨e, H2⟩ | ⟨e, H2⟩
  ·
   exact .inl ⟨true, b2, [], hF.1, by simp, by simpa using H2, Nat.le_refl _, (fun _ => ⟨rfl, rfl, e⟩), (fun h => by cases h)⟩
  exact .inr ⟨e, by simpa using H2⟩
 | @cons _ _ h2 _ b bs H3 H4 =>
  refine .inl ⟨false, b, bs ++ b2, h2, by rw [List.append_assoc], H3, ?_, (fun h => by cases h), fun _ => ⟨bs, b2, h1, rfl, H4, ?_⟩⟩
  ·
   rcases H2 with ⟨e, H2⟩ | ⟨e, H2⟩
   ·
    exact Nat.le_trans H4.len H2.len.1
   exact Nat.le_trans H4.len H2.len.1
  rw [List.length_append, ← Nat.add_assoc] at H2; exact H2
end Go.Infl
namespace Go.Eng
open Go Go.Proofs Go.Infl
section
variable {P : Program} {G w : World} {ρ : Env} {n : Nat} {L R : List HProp} {Q : Exit → Act → World → Prop} {ops : Array Oper} {rest : List Oper} {v : Value}
theorem nil_slc (s : Nat) (h : Sat G w L) : Sat G w (slc s (.slice none 0 0) 0 [] :: L) :=
 h.emp (A := slc s (.slice none 0 0) 0 []) ⟨by simp, .inl ⟨rfl, rfl⟩⟩
theorem CT.nilslc {c : Code} (s : Nat) (k : CT P c Q ρ n G (slc s (.slice none 0 0) 0 [] :: L)) : CT P c Q ρ n G L := fun w a hS ha => k w a (nil_slc s hS) ha
theorem TL.nilslc (s : Nat) (k : TL P Q ops rest ρ n G (slc s (.slice none 0 0) 0 [] :: L)) : TL P Q ops rest ρ n G L := fun w a hS ha => k w a (nil_slc s hS) ha
theorem EX.nilslc {x : Exit} (s : Nat) (k : EX Q x ρ n G (slc s (.slice none 0 0) 0 [] :: L)) : EX Q x ρ n G L := fun w a hS ha => k w a (nil_slc s hS) ha
theorem r_appends {t t2 e2 e s bt k j : Nat} {x y : Operand} {xv : Value} {cs ds : List Value} {d : Option Tmp} {ty : TypeId} {pos : String} {af : Array Edge} {g : Option (Nat × Bool)} (hE : EL P t e s bt) (h2 : P.underlying t2 = some (.slice e2)) (hv : OV ρ x v) (hy : OV ρ y xv)
 (hm : slc s xv j ds ∈ slc s v k cs :: R) (hone : ∀ x ∈ ds, one x = true) (hb : (2 * (k + j) + 192) * bt ≤ 2 ^ 48) (hk : k + j < 2 ^ 62) :
 RunW P G ρ n (slc s v k cs :: R) ⟨d, .call ⟨.builtin .append, #[x, y], #[t, t2]⟩, ty, pos, af, g⟩ (fun v' w' => Sat G w' (slc s v' (k + j) (cs ++ ds) :: R)) := fun w a hS ha =>
 r_append hE h2 hv hy (by
  obtain ⟨_, ⟨h, h0⟩ | ⟨b, c, h, _⟩⟩ := hS.slc_shape hm
  ·
   exact ⟨none, 0, by rw [h, h0]⟩
  exact ⟨_, c, h⟩) (Rds.slc hm hS) hone hb hk w a hS ha
theorem r_slicen {t e : TypeId} {x : Operand} {lo hi : Option Operand} {l h : Option Nat} {s : Nat} {d : Option Tmp} {ty : TypeId} {pos : String} {af : Array Edge} {g : Option (Nat × Bool)} (ht : P.underlying t = some (.slice e)) (hs : ∀ w, (sizeOf e).run P w = .ok s w)
 (hx : OV ρ x (.slice none 0 0)) (hl : OB ρ lo l) (hh : OB ρ hi h) (h1 : l.getD 0 = 0) (h2 : h.getD 0 = 0) :
 Run P G ρ n L ⟨d, .slice t x lo hi none, ty, pos, af, g⟩ (.slice none 0 0) := fun w a _ ha => by
 have e1 : ∀ code w, (match hi.map a.eval with | some v => Instr.sliceBound v 0 code | none => (Pure.pure 0 : Sem Nat)).run P w = .ok (h.getD 0) w := by
  intro code w
  cases hh with
  | no => rfl
  | so hv e => subst e; simp only [Option.map_some, hv.eval ha]; exact sb_some (by simpa using Nat.le_of_eq h2) w
 have e2 : ∀ code w, (match lo.map a.eval with | some v => Instr.sliceBound v (h.getD 0) code | none => (Pure.pure 0 : Sem Nat)).run P w = .ok (l.getD 0) w := by
  intro code w
  cases hl with
  | no => rfl
  | so hv e => subst e; simp only [Option.map_some, hv.eval ha]; exact sb_some (by simp at h1; omega) w
 have key : (Instr.sliceBounds true 0 0 (lo.map a.eval) (hi.map a.eval) none).run P w = .ok (l.getD 0, h.getD 0, 0) w := by
  unfold Instr.sliceBounds
  simp only [Sem.run_bind, Sem.run_pure, Result.andThen_ok]
  cases hh with
  | no =>
   simp only [Option.map_none]
   have := e2 .sliceB w
   cases hl <;> simp_all
  | so hv e =>
   have e1' := e1 .sliceAcap w
   have e2' := e2 .sliceB w
   simp only [Option.map_some] at *
   simp only [if_true]
   cases hl <;> simp_all
 rw [h1, h2] at key
 simp only [execOp, hx.eval ha, Instr.sliceAt, Sem.run_bind, run_underlying ht, Result.andThen_ok, Option.map_none, Instr.slice, key, hs, Sem.run_pure, Option.map_some, add_at]
 simp
theorem map_snoc {α β : Type} {f : α → β} {l : List α} {a : α} : l.map f ++ [f a] = (l ++ [a]).map f := by simp
end
end Go.Eng
namespace Go.Eng
open Go Go.Proofs Go.Infl
theorem t45 (r b : Nat) (ys : List Nat) (N : Nat) (hy : 0 < ys.length) (hyl : ys.length < 1099511627776) (hN : N < 1099511627776) {G : World} {R : List HProp} {w : World} (hS : Sat G w (blk b ys.length (lst (ys.map i64)) :: Rdr G r (N) :: R)) :
 CallsR Tryz.prog 45 #[(pt r 0), (.slice (some ⟨b, 0, none⟩) ys.length ys.length)] w (fun v w' => ∃ y : Nat, v = i64 y ∧ y ∈ ys ∧ Sat G w' (Rdr G r (N + 1) :: R)) := by
 refine calls_in (n := 12) [(0, (pt r 0)), (1, (.slice (some ⟨b, 0, none⟩) ys.length ys.length))] Tryz.func45 rfl rfl hS args2 ?_
 refine CT.q (TL.val (r_asg .c) (TL.q (TL.m m2 (TL.m m2 (TL.m m4 (TL.val (r_len Tryz.underlying42 T0) (TL.perm p1 (TL.call (r_call ce_39 (.cons T2 (.cons T0 .nil))) (fun w hS => t39 r ys.length (N) hyl (by omega) hS) ?_))))))))
 rintro _ w9 ⟨y9, rfl, y9_l, hS⟩
 refine TW.at hS (TL.val (r_ia (i := y9) (off' := y9) Tryz.underlying42 Tryz.sizeOf3 T4 T0 rfl (Nat.lt_of_lt_of_le y9_l (by omega)) (by omega)) ?_)
 obtain ⟨y1, hy1⟩ : ∃ y1, ys[y9]? = some y1 := ⟨_, List.getElem?_eq_getElem (Nat.lt_of_lt_of_le y9_l (by omega))⟩
 refine TL.val (r_ld (v := (i64 y1)) Tryz.isAgg3 m1 T0 (Nat.lt_of_lt_of_le y9_l (by omega)) (lst_get (by rw [List.getElem?_map, hy1]; rfl))) ?_
 exact TL.rm .h7 (TL.a m0 (TL.b (.hd .u9) (CT.ret (EX.end_ (.inl rfl) (res1 Tryz.results45 m0) (fun _ hS => ⟨y1, rfl, List.mem_of_getElem? hy1, hS.perm (List.Perm.swap _ _ _) |>.tail⟩)))))
theorem t44 (r n N : Nat) (hn : n < 1048576) (hN : N + 2 * n + 8 < 1099511627776) {G : World} {R : List HProp} {w : World} (hS : Sat G w (Rdr G r (N) :: R)) :
 CallsR Tryz.prog 44 #[(pt r 0), (i64 n)] w (fun v w' => ∃ (xs : List Nat), xs.length ≤ n ∧ (∀ x ∈ xs, x < 256) ∧ Sat G w' (slc 1 v xs.length (xs.map u8) :: Rdr G r (N + 1 + 2 * n) :: R)) := by
 refine calls_in (n := 25) [(0, (pt r 0)), (1, (i64 n))] Tryz.func44 rfl rfl hS args2 ?_
 refine CT.q (TL.val (r_asg .c) (TL.q (TL.val (r_asg .c) (TL.e (CT.seq (CT.q (TL.m m2 (TL.m m4 (TL.val (n_add n 1 9223372036854775808 T0 .c) (TL.call (r_call ce_39 (.cons T2 (.cons T0 .nil))) (fun w hS => t39 r ((n + 1)) (N) (by omega) (by omega) hS) ?_))))))))))
 rintro _ w10 ⟨y10, rfl, y10_l, hS⟩
 refine TW.at hS (TL.a m0 (TL.b (.hd (.tl (.tl (.tl (.tl (.hd (.hd (.hd .u1)))))))) (CT.block (CT.nilslc 1 ?_))))
 refine CT.fold (A' := (Rdr G r (N + 1 + 2 * (([] : List Nat)).length))) a1 (Rdr_mono (by first | (show _ ≤ _; omega) | (rw [List.length_append, List.length_singleton]; omega) | (show _ ≤ N + 1 + 2 * 0; omega))) (CT.loop (X := Value × List Nat) (fun gx => [(6, (i64 (y10 - (gx.2).length))), (5, gx.1), (4, (.slice none 0 0)), (0, (pt r 0))]) (fun gx => (slc 1 gx.1 ((gx.2).length) ((gx.2).map u8)) :: Rdr G r (N + 1 + 2 * (gx.2).length) :: R) (fun gx => (∀ x ∈ gx.2, x < 256) ∧ (gx.2).length ≤ y10) (fun gx => y10 - (gx.2).length) (((.slice none 0 0), ([] : List Nat))) (⟨(by intro x hx; cases hx), Nat.zero_le _⟩) (.refl _) (.eq m0 (by first | rfl | (congr 1 <;> omega) | (congr 2; rw [List.length_append, List.length_singleton]; omega)) (.sl 1 3 rfl)) ?_)
 rintro ⟨v, xs⟩ ⟨hI1, hI2⟩
 show CT _ _ _ [(6, (i64 (y10 - (xs).length))), (5, v), (4, (.slice none 0 0)), (0, (pt r 0))] _ _ (slc 1 v ((xs).length) ((xs).map u8) :: Rdr G r (N + 1 + 2 * (xs).length) :: R)
 replace hI1 : ∀ x ∈ xs, x < 256 := hI1
 replace hI2 : xs.length ≤ y10 := hI2
 refine CT.seq (CT.q (TL.m m0 (TL.val (n_gtr ((y10 - (xs).length)) 0 T0 .c) (TL.b (.hd .u1) (CT.ifd m0 (fun c12 => ?_) (fun c12 => ?_))))))
 ·
  refine CT.z (EX.seq (CT.seq (CT.block (CT.region (TL.m m1 (TL.m m4 (TL.m m5 (TL.perm p1 (TL.call (r_call ce_39 (.cons T0 (.cons .c .nil))) (fun w hS => t39 r 256 (N + 1 + 2 * (xs).length) (by omega) (by omega) hS) ?_)))))))))
  rintro _ w18 ⟨y18, rfl, y18_l, hS⟩
  refine TW.at hS (TL.w (r_buildSlice (k := 5) (e := 3) (cs := #[(.int .i64 97), (.int .i64 98), (.int .i64 0), (.int .i64 255), (i64 y18)]) (F := lst [(.int .i64 97), (.int .i64 98), (.int .i64 0), (.int .i64 255), (i64 y18)]) (.cons .c (.cons .c (.cons .c (.cons .c (.cons T0 .nil))))) (fun _ => by kernel_rfl) rfl lst_ok) ?_)
  rintro _ w19 ⟨b19, rfl, hS⟩
  refine TW.at hS (TL.perm p1 (TL.perm p1 (TL.call (r_call ce_45 (.cons T3 (.cons T0 .nil))) (fun w hS => t45 r b19 [97, 98, 0, 255, y18] (N + 1 + 2 * (xs).length + 1) (Nat.zero_lt_succ _) (by show _ < _; simp) (by omega) hS) ?_)))
  rintro _ w20 ⟨y20, rfl, y20_m, hS⟩
  refine TW.at hS ?_
  have hy20 : y20 < 256 := by simp only [List.mem_cons, List.not_mem_nil, or_false] at y20_m; omega
  refine TL.val (n_conv y20 256 ⟨_, Tryz.underlying3⟩ Tryz.underlying5 T0 rfl hy20) (TL.w (r_buildSlice (k := 1) (e := 5) (cs := #[(u8 y20)]) (F := lst [(u8 y20)]) (.cons T0 .nil) (fun _ => by kernel_rfl) rfl lst_ok) ?_)
  rintro _ w22 ⟨b22, rfl, hS⟩
  refine TW.at hS (TL.perm p2 (TL.w (r_append (j := 1) (k := (xs).length) (ds := [(u8 y20)]) el_22 Tryz.underlying22 T7 T0 ⟨_, _, rfl⟩ (rdsl m1 rfl rfl) ones1 (by have : xs.length ≤ y10 := hI2; omega) (by have : xs.length ≤ y10 := hI2; omega)) ?_))
  rintro v23 w23 hS
  refine TW.at hS (TL.fold (A' := (slc 1 v23 ((xs ++ [y20]).length) ((xs ++ [y20]).map u8))) a0 (slc_eq (by rw [List.length_append, List.length_singleton]) map_snoc) ?_)
  refine TL.rm .h10 (TL.a m0 (TL.x (.hd .u9) (EX.bnormal (EX.seq (CT.region (TL.m m1 (TL.val (n_sub ((y10 - (xs).length)) 1 9223372036854775808 T0 .c) (TL.rm .h3 (TL.a m0 (TL.x (.hd .u2) (EX.fold (A' := (Rdr G r (N + 1 + 2 * (xs ++ [y20]).length))) a2 (Rdr_mono (by first | (show _ ≤ _; omega) | (rw [List.length_append, List.length_singleton]; omega) | (show _ ≤ N + 1 + 2 * 0; omega))) (EX.perm p1 (EX.conv (fun _ h => h.tail) ?_)))))))))))))
  exact EX.again ((v23, xs ++ [y20])) (⟨by intro x hx; rcases List.mem_append.1 hx with h | h; exact hI1 x h; rw [List.mem_singleton.1 h]; exact hy20, by show (xs ++ [y20]).length ≤ _; rw [List.length_append, List.length_singleton]; omega⟩) (by show _ - (xs ++ [_]).length < _ - xs.length; rw [List.length_append, List.length_singleton]; omega) (.refl _) (.eq m0 (by first | rfl | (congr 1 <;> omega) | (congr 2; rw [List.length_append, List.length_singleton]; omega)) (.sl 1 3 rfl))
 exact CT.sub .u1 (CT.exit (EX.then_exit (EX.then_exit (EX.out (EX.q (TL.m m1 (TL.rm .h3 (TL.a m0 (TL.b (.hd .u1) (CT.ret (EX.end_ (.inl rfl) (res1 Tryz.results44 m0) (fun _ hS => ⟨xs, by omega, hI1, (hS.perm (List.Perm.swap _ _ _)).imp (Rdr_mono (by omega)) |>.perm (List.Perm.swap _ _ _)⟩))))))))))))
end Go.Eng
namespace Go.Eng
open Go Go.Proofs Go.Infl
def CodeOf (G : World) (cv : Value) : Prop := cv = .slice none 0 0 ∨ ∃ b off c, ∃ xs : List Nat, cv = .slice (some ⟨b, off, none⟩) xs.length c ∧ xs.length ≤ c ∧ (∀ x ∈ xs, x < 256) ∧ ∀ j x, xs[j]? = some x → G.cell? ⟨b, off + j, none⟩ = some (u8 x)
theorem take_get {α : Type} {l : List α} {n j : Nat} {x : α} (h : (l.take n)[j]? = some x) : l[j]? = some x := by
 rw [List.getElem?_take] at h
 split at h
 ·
  exact h
 cases h
theorem keep2 {G w : World} {R : List HProp} {A B C : HProp} (h : Sat G w (A :: B :: C :: R)) : Sat G w (A :: B :: R) := ((h.perm p2).tail)
theorem t35 {G : World} (cv : Value) (hc : CodeOf G cv) {R : List HProp} {w : World} (hS : Sat G w (R)) :
 CallsR Tryz.prog 35 #[cv] w (fun v w' => ∃ r : Nat, v = pt r 0 ∧ Sat G w' (Rdr G r 0 :: R)) := by
 obtain rfl | ⟨b, off, c, xs, rfl, hlc, hxs, hx⟩ := hc
 ·
  refine calls_in (n := 10) [(0, (.slice none 0 0))] Tryz.func35 rfl rfl hS args1 ?_
  refine CT.q (TL.val (r_asg .c) (TL.q (TL.m m1 (TL.m m2 (TL.val (r_len Tryz.underlying22 T0) (TL.val (n_min 0 3000 T0 .c rfl rfl) (TL.val (r_slicen Tryz.underlying22 Tryz.sizeOf5 T3 .no (.so (j := (min 0 3000)) T0 rfl) (by first | rfl | simp) (by first | rfl | simp)) (TL.val (r_build (v := (.agg #[(.slice none 0 0), (.int .i64 0)])) (.cons T0 .nil) (fun _ => by kernel_rfl)) (TL.w (r_box (F := lst [(.slice none 0 0), (.int .i64 0)]) T0 rfl rfl lst_ok) ?_)))))))))
  rintro _ w9 ⟨b9, rfl, hS⟩
  exact TW.at hS (TL.rm .h7 (TL.a m0 (TL.b (.hd .u8) (CT.ret (EX.end_ (.inl rfl) (res1 Tryz.results35 m0) (fun _ hS => ⟨b9, rfl, Sat.toRdr (q := 0) ⟨[], by simp, by simp, .inl ⟨rfl, rfl⟩⟩ (Nat.le_refl _) hS⟩))))))
 refine calls_in (n := 10) [(0, (.slice (some ⟨b, off, none⟩) xs.length c))] Tryz.func35 rfl rfl hS args1 ?_
 refine CT.q (TL.val (r_asg .c) (TL.q (TL.m m1 (TL.m m2 (TL.val (r_len Tryz.underlying22 T0) (TL.val (n_min xs.length 3000 T0 .c rfl rfl) (TL.val (r_slice (off' := off) (m := (min xs.length 3000)) (c' := c) Tryz.underlying22 Tryz.sizeOf5 T3 .no (.so (j := (min xs.length 3000)) T0 rfl) (by (try simp) <;> omega) (by (try simp) <;> omega) (by simp) (by simp) (by simp)) (TL.val (r_build (v := (.agg #[(.slice (some ⟨b, off, none⟩) ((min xs.length 3000)) c), (.int .i64 0)])) (.cons T0 .nil) (fun _ => by kernel_rfl)) (TL.w (r_box (F := lst [(.slice (some ⟨b, off, none⟩) ((min xs.length 3000)) c), (.int .i64 0)]) T0 rfl rfl lst_ok) ?_)))))))))
 rintro _ w9 ⟨b9, rfl, hS⟩
 exact TW.at hS (TL.rm .h7 (TL.a m0 (TL.b (.hd .u8) (CT.ret (EX.end_ (.inl rfl) (res1 Tryz.results35 m0) (fun _ hS => ⟨b9, rfl, Sat.toRdr (q := 0) ⟨xs.take (min xs.length 3000), fun x hx => hxs x (List.mem_of_mem_take hx), by rw [List.length_take]; omega, .inr ⟨b, off, c, by rw [List.length_take]; congr 1; omega, fun j x hj => hx j x (take_get hj)⟩⟩ (Nat.le_refl _) hS⟩))))))
end Go.Eng
namespace Go.Infl
theorem packByte_get : ∀ (l : List Bool) (i : Nat), packByte l / 2 ^ i % 2 = (l[i]?.getD false).toNat := by
 intro l
 induction l with
 | nil => intro i; simp [packByte]
 | cons b l ih =>
  intro i
  cases i with
  | zero => cases b <;> simp [packByte] <;> omega
  | succ i =>
   rw [packByte, Nat.pow_succ, Nat.mul_comm (2 ^ i) 2, ← Nat.div_div_eq_div_mul]
   have : (b.toNat + 2 * packByte l) / 2 = packByte l := by cases b <;> simp <;> omega
   rw [this, ih]
   simp
theorem drop_cons {α : Type} {l rest : List α} {b : α} {i : Nat} (h : l.drop i = b :: rest) : l[i]? = some b ∧ i < l.length ∧ l.drop (i + 1) = rest := by
 have h1 : i < l.length := by
  rcases Nat.lt_or_ge i l.length with h' | h'
  ·
   exact h'
  rw [List.drop_eq_nil_of_le h'] at h; cases h
 rw [List.drop_eq_getElem_cons h1] at h
 injection h with h2 h3
 exact ⟨by rw [List.getElem?_eq_getElem h1, h2], h1, h3⟩
theorem drop_app {α : Type} {l a rest : List α} {i : Nat} (h : l.drop i = a ++ rest) : l.drop (i + a.length) = rest := by
 rw [← List.drop_drop, h, List.drop_left]
theorem byte_bit {B : List Bool} {i : Nat} {b : Bool} (h : B[i]? = some b) : byteAt B (i / 8) / 2 ^ (i % 8) % 2 = b.toNat := by
 unfold byteAt
 rw [packByte_get, List.getElem?_take, if_pos (Nat.mod_lt _ (by decide)), List.getElem?_drop, Nat.div_add_mod, h]
 rfl
theorem pack_get {B : List Bool} {i : Nat} (h : i < (pack B).length) : (pack B)[i]? = some (byteAt B i) := by
 unfold pack
 rw [List.getElem?_map, List.getElem?_range (by rwa [pack_length] at h)]
 rfl
theorem nbits_drop {n x k : Nat} (h : k < n) : (nbits n x).drop k = x.testBit k :: (nbits n x).drop (k + 1) := by
 rw [List.drop_eq_getElem_cons (by rw [nbits_length]; exact h)]
 congr 1
 simp [nbits]
theorem mod_step {x k : Nat} : x % 2 ^ k ||| (x.testBit k).toNat * 2 ^ k = x % 2 ^ (k + 1) := by
 rw [or_add (Nat.mod_lt _ (Nat.two_pow_pos k)), Nat.mod_pow_succ, Nat.testBit_eq_decide_div_mod_eq]
 have : x / 2 ^ k % 2 < 2 := Nat.mod_lt _ (by decide)
 have e : (decide (x / 2 ^ k % 2 = 1)).toNat = x / 2 ^ k % 2 := by
  rcases Nat.lt_or_ge (x / 2 ^ k % 2) 1 with h | h
  ·
   rw [show x / 2 ^ k % 2 = 0 by omega]; rfl
  rw [show x / 2 ^ k % 2 = 1 by omega]; rfl
 rw [e, Nat.mul_comm]
end Go.Infl
namespace Go.Eng
open Go Go.Proofs Go.Infl
def Sp (p : Nat) (sv : Value) (B : List Bool) (at_ : Nat) (dv : Value) (out : List Nat) (e : Int) : HProp := hex fun ov => sep [blk p 5 (lst [sv, i64 at_, dv, ov, .int .i64 e]), slc 1 sv (pack B).length ((pack B).map u8), slc 1 ov out.length (out.map u8)]
theorem Sp_eq {p at_ at' : Nat} {sv dv : Value} {B : List Bool} {out out' : List Nat} {e : Int} (h : at_ = at') (h2 : out = out') : ∀ m, Sp p sv B at_ dv out e m → Sp p sv B at' dv out' e m := by subst h h2; exact fun _ h => h
theorem two_pow_le {k n : Nat} (h : k < n) (hn : n ≤ 32) : 2 ^ k ≤ 2147483648 := Nat.pow_le_pow_right (by decide) (show k ≤ 31 by omega)
theorem Sat.keep1 {G w : World} {R : List HProp} {A B : HProp} (h : Sat G w (A :: B :: R)) : Sat G w (A :: R) := (h.perm p1).tail
section
variable {P : Program} {G w : World} {ρ : Env} {n : Nat} {R : List HProp} {Q : Exit → Act → World → Prop} {ops : Array Oper} {rest : List Oper} {p at_ : Nat} {sv dv ov : Value} {B : List Bool} {out : List Nat} {e : Int}
theorem Sat.sp (h : Sat G w (Sp p sv B at_ dv out e :: R)) : ∃ ov, Sat G w (Eng.blk p 5 (lst [sv, i64 at_, dv, ov, .int .i64 e]) :: Eng.slc 1 sv (pack B).length ((pack B).map u8) :: Eng.slc 1 ov out.length (out.map u8) :: R) :=
 let ⟨v, hv⟩ := h.ex; ⟨v, hv.unsep⟩
theorem Sat.unsp (h : Sat G w (Eng.blk p 5 (lst [sv, i64 at_, dv, ov, .int .i64 e]) :: Eng.slc 1 sv (pack B).length ((pack B).map u8) :: Eng.slc 1 ov out.length (out.map u8) :: R)) : Sat G w (Sp p sv B at_ dv out e :: R) :=
 (Sat.resep (Ls := [Eng.blk p 5 (lst [sv, i64 at_, dv, ov, .int .i64 e]), Eng.slc 1 sv (pack B).length ((pack B).map u8), Eng.slc 1 ov out.length (out.map u8)]) h).imp fun _ hm => ⟨ov, hm⟩
theorem CT.sp {c : Code} (k : ∀ ov, CT P c Q ρ n G (blk p 5 (lst [sv, i64 at_, dv, ov, .int .i64 e]) :: slc 1 sv (pack B).length ((pack B).map u8) :: slc 1 ov out.length (out.map u8) :: R)) : CT P c Q ρ n G (Sp p sv B at_ dv out e :: R) := fun w a hS ha => let ⟨v, hv⟩ := hS.sp; k v w a hv ha
theorem TL.sp (k : ∀ ov, TL P Q ops rest ρ n G (blk p 5 (lst [sv, i64 at_, dv, ov, .int .i64 e]) :: slc 1 sv (pack B).length ((pack B).map u8) :: slc 1 ov out.length (out.map u8) :: R)) : TL P Q ops rest ρ n G (Sp p sv B at_ dv out e :: R) := fun w a hS ha => let ⟨v, hv⟩ := hS.sp; k v w a hv ha
theorem CT.unsp {c : Code} (k : CT P c Q ρ n G (Sp p sv B at_ dv out e :: R)) : CT P c Q ρ n G (blk p 5 (lst [sv, i64 at_, dv, ov, .int .i64 e]) :: slc 1 sv (pack B).length ((pack B).map u8) :: slc 1 ov out.length (out.map u8) :: R) := fun w a hS ha => k w a hS.unsp ha
theorem TL.unsp (k : TL P Q ops rest ρ n G (Sp p sv B at_ dv out e :: R)) : TL P Q ops rest ρ n G (blk p 5 (lst [sv, i64 at_, dv, ov, .int .i64 e]) :: slc 1 sv (pack B).length ((pack B).map u8) :: slc 1 ov out.length (out.map u8) :: R) := fun w a hS ha => k w a hS.unsp ha
theorem EX.unsp {x : Exit} (k : EX Q x ρ n G (Sp p sv B at_ dv out e :: R)) : EX Q x ρ n G (blk p 5 (lst [sv, i64 at_, dv, ov, .int .i64 e]) :: slc 1 sv (pack B).length ((pack B).map u8) :: slc 1 ov out.length (out.map u8) :: R) := fun w a hS ha => k w a hS.unsp ha
end
theorem t47 {p at_ : Nat} {sv dv : Value} {B : List Bool} {out : List Nat} {e : Int} {r : Bool} (hr : decide (e < 0) = r) {G : World} {R : List HProp} {w : World} (hS : Sat G w ((Sp p sv (B) at_ dv out e) :: R)) :
 CallsR Tryz.prog 47 #[(pt p 0)] w (fun v w' => v = .bool r ∧ Sat G w' (Sp p sv B at_ dv out e :: R)) := by
 refine calls_in (n := 8) [(0, (pt p 0))] Tryz.func47 rfl rfl hS args1 ?_
 refine CT.q (TL.val (r_asg .c) (TL.e (CT.seq (CT.sp ?_))))
 intro ov1
 exact CT.region (TL.m m1 (TL.c m0 (TL.f 4 fo_56_4 m0 (TL.val (r_ld (v := (.int .i64 e)) Tryz.isAgg3 m0 T0 (by decide) rfl) (TL.val (r_lss T0 .c) (TL.rm .h5 (TL.a m0 (TL.b (.hd .u6) (CT.ret (EX.end_ (.inl rfl) (res1 Tryz.results47 m0) (fun _ hS => ⟨by rw [hr], hS.unsp⟩)))))))))))
theorem t49_1 {p at_ : Nat} {sv dv : Value} {B : List Bool} {out : List Nat} {x : Int} {G : World} {R : List HProp} {w : World} (hS : Sat G w ((Sp p sv (B) at_ dv out ((-1))) :: R)) :
 CallsR Tryz.prog 49 #[(pt p 0), (.int .i64 x)] w (fun v w' => v = .tuple #[] ∧ Sat G w' (Sp p sv B at_ dv out x :: R)) := by
 refine calls_in (n := 13) [(0, (pt p 0)), (1, (.int .i64 x))] Tryz.func49 rfl rfl hS args2 ?_
 refine CT.seq (CT.sp ?_)
 intro ov1
 refine CT.region (TL.m m0 (TL.c m0 (TL.f 4 fo_56_4 m0 (TL.val (r_ld (v := (.int .i64 ((-1)))) Tryz.isAgg3 m0 T0 (by decide) rfl) (TL.val (r_lss T0 .c) (TL.b (.hd .u4) (CT.ifd m0 (fun c8 => ?_) (fun c8 => ?_))))))))
 ·
  exact CT.sub .u1 (CT.region (TL.m m0 (TL.m m2 (TL.c m1 (TL.f 4 fo_56_4 m0 (TL.s (r_stl (l' := [sv, (i64 at_), dv, ov1, (.int .i64 x)]) Tryz.sizeOf3 a0 T0 T2 (by decide)) (TL.x (.tl (.tl (.tl (.tl (.hd .u1))))) (EX.end_ (.inr rfl) (res0 Tryz.results49) (fun _ hS => ⟨rfl, hS.unsp⟩)))))))))
 exfalso; omega
theorem t49_2 {p at_ : Nat} {sv dv : Value} {B : List Bool} {out : List Nat} {e x : Int} (he : ¬ e < 0) {G : World} {R : List HProp} {w : World} (hS : Sat G w ((Sp p sv (B) at_ dv out e) :: R)) :
 CallsR Tryz.prog 49 #[(pt p 0), (.int .i64 x)] w (fun v w' => v = .tuple #[] ∧ Sat G w' (Sp p sv B at_ dv out e :: R)) := by
 refine calls_in (n := 13) [(0, (pt p 0)), (1, (.int .i64 x))] Tryz.func49 rfl rfl hS args2 ?_
 refine CT.seq (CT.sp ?_)
 intro ov1
 refine CT.region (TL.m m0 (TL.c m0 (TL.f 4 fo_56_4 m0 (TL.val (r_ld (v := (.int .i64 e)) Tryz.isAgg3 m0 T0 (by decide) rfl) (TL.val (r_lss T0 .c) (TL.b (.hd .u4) (CT.ifd m0 (fun c8 => ?_) (fun c8 => ?_))))))))
 ·
  exfalso; omega
 exact CT.z (EX.end_ (.inr rfl) (res0 Tryz.results49) (fun _ hS => ⟨rfl, hS.unsp⟩))
theorem t71 {p at_ : Nat} {sv dv : Value} {B : List Bool} {out : List Nat} {b : Bool} {rest : List Bool} (hA : B.length < 9223372036854775808) (hd : B.drop at_ = b :: rest) {G : World} {R : List HProp} {w : World} (hS : Sat G w ((Sp p sv (B) at_ dv out ((-1))) :: R)) :
 CallsR Tryz.prog 71 #[(pt p 0)] w (fun v w' => v = i64 b.toNat ∧ Sat G w' (Sp p sv B (at_ + 1) dv out (-1) :: R)) := by
 obtain ⟨hb, hlt, hr⟩ := drop_cons hd
 have hpl := pack_length B
 have hat : at_ < 9223372036854775807 := by omega
 refine calls_in (n := 47) [(0, (pt p 0))] Tryz.func71 rfl rfl hS args1 ?_
 refine CT.q (TL.val (r_asg .c) (TL.e (CT.seq (CT.q (TL.m m1 (TL.call (r_call ce_47 (.cons T0 .nil)) (fun w hS => t47 (r := true) (by decide) hS) ?_))))))
 rintro _ w5 ⟨rfl, hS⟩
 refine TW.at hS (TL.val (r_nott T0) (TL.b (.hd .u2) (CT.iff_ m0 ?_)))
 refine CT.z (EX.seq (CT.seq (CT.seq (CT.sp ?_))))
 intro ov1
 refine CT.still fm (by kernel_rfl) ?_
 refine TS.m m1 (TS.c m0 (TS.f 1 fo_56_1 m0 (TS.val (r_ld (v := (i64 at_)) Tryz.isAgg3 m0 T0 (by decide) rfl) (TS.val (n_quo at_ 8 9223372036854775808 T0 .c rfl rfl (by omega) (by omega)) (TS.m m6 (TS.c m0 (TS.f 0 fo_56_0 m0 (TS.val (r_ld (v := sv) Tryz.isAgg22 m0 T0 (by decide) rfl) (TS.val (r_lens Tryz.underlying22 T0 m1) (TS.val (n_geq ((at_ / 8)) ((pack B).length) T5 T0) (TS.nil (TL.b (.hd .u10) (CT.ifd m0 (fun c17 => ?_) (fun c17 => ?_))))))))))))))
 ·
  exfalso; omega
 refine CT.z (EX.seq (CT.seq (CT.peek m1 (by rw [pack_length]; omega) ?_)))
 intro d d_c d_v d_k d_l
 refine CT.still fm (by kernel_rfl) ?_
 refine TS.m m1 (TS.c m0 (TS.f 0 fo_56_0 m0 (TS.val (r_ld (v := sv) Tryz.isAgg22 m0 T0 (by decide) rfl) (TS.m m5 (TS.c m0 (TS.f 1 fo_56_1 m0 (TS.val (r_ld (v := (i64 at_)) Tryz.isAgg3 m0 T0 (by decide) rfl) (TS.val (n_quo at_ 8 9223372036854775808 T0 .c rfl rfl (by omega) (by omega)) (TS.val (r_ia (i := (at_ / 8)) (off' := (at_ / 8)) Tryz.underlying22 Tryz.sizeOf5 (.te m5 d_v) T0 rfl (by rw [pack_length]; omega) (by omega)) (TS.val (r_lds (u := (u8 (byteAt B (at_ / 8)))) Tryz.isAgg5 m1 d_v T0 (by rw [List.getElem?_map, pack_get (by rw [pack_length]; omega)]; rfl)) ?_))))))))))
 exact TS.val (n_conv (byteAt B (at_ / 8)) 9223372036854775808 ⟨_, Tryz.underlying5⟩ Tryz.underlying3 T0 rfl (by have := byteAt_lt B (at_ / 8); omega)) (TS.m m13 (TS.c m0 (TS.f 1 fo_56_1 m0 (TS.val (r_ld (v := (i64 at_)) Tryz.isAgg3 m0 T0 (by decide) rfl) (TS.val (n_rem at_ 8 T0 .c rfl rfl (by omega)) (TS.val (n_shr (byteAt B (at_ / 8)) ((at_ % 8)) T5 T0 rfl rfl (show _ ≤ 64 by omega)) (TS.val (n_and ((byteAt B (at_ / 8) / 2 ^ (at_ % 8))) 1 9223372036854775808 T0 .c rfl rfl (by first | decide | (have := Nat.div_le_self (byteAt B (at_ / 8)) (2 ^ (at_ % 8)); have := byteAt_lt B (at_ / 8); omega)) (by first | decide | (have := Nat.div_le_self (byteAt B (at_ / 8)) (2 ^ (at_ % 8)); have := byteAt_lt B (at_ / 8); omega))) (TS.val (r_asg T0) (TS.nil (TL.r (.hd .u19) (TL.m m2 (TL.c m0 (TL.f 1 fo_56_1 m0 (TL.val (r_ld (v := (i64 at_)) Tryz.isAgg3 m0 T0 (by decide) rfl) (TL.val (n_add at_ 1 9223372036854775808 T0 .c) (TL.c m4 (TL.f 1 fo_56_1 m0 (TL.s (r_stl (l' := [sv, (i64 (at_ + 1)), dv, ov1, (.int .i64 ((-1)))]) Tryz.sizeOf3 a0 T0 T2 (by decide)) (TL.r .u7 (TL.m m0 (TL.rm .h2 (TL.a m0 (TL.b (.hd .u2) (CT.ret (EX.end_ (.inl rfl) (res1 Tryz.results71 m0) (fun _ hS => ⟨congrArg (fun z : Nat => Value.int .i64 (z : Int)) (by rw [Nat.and_one_is_mod]; exact byte_bit hb), hS.unsp⟩))))))))))))))))))))))))))
theorem t72 {p at_ : Nat} {sv dv : Value} {B : List Bool} {out : List Nat} (x n : Nat) {rest : List Bool} (hA : B.length < 9223372036854775808) (hn : n ≤ 32) (hx : x < 2 ^ n) (hd : B.drop at_ = nbits n x ++ rest) {G : World} {R : List HProp} {w : World} (hS : Sat G w ((Sp p sv (B) at_ dv out ((-1))) :: R)) :
 CallsR Tryz.prog 72 #[(pt p 0), (i64 n)] w (fun v w' => v = i64 x ∧ Sat G w' (Sp p sv B (at_ + n) dv out (-1) :: R)) := by
 refine calls_in (n := 19) [(0, (pt p 0)), (1, (i64 n))] Tryz.func72 rfl rfl hS args2 ?_
 refine CT.q (TL.val (r_asg .c) (TL.q (TL.val (r_asg .c) (TL.e (CT.seq (CT.q (TL.m m3 (TL.val (r_move .c) (TL.b (.hd (.hd (.hd (.hd (.hd .u1))))) (CT.block (CT.fold (A' := (Sp p sv (B) (at_ + 0) dv out ((-1)))) a0 (Sp_eq (by omega) rfl) (CT.loop (X := Nat) (fun gx => [(8, (i64 gx)), (5, (i64 (x % 2 ^ gx))), (7, (i64 n)), (4, (.int .i64 0)), (0, (pt p 0))]) (fun gx => (Sp p sv (B) (at_ + gx) dv out ((-1))) :: R) (fun gx => gx ≤ n ∧ B.drop (at_ + gx) = (nbits n x).drop gx ++ rest) (fun gx => n - gx) 0 (⟨Nat.zero_le _, hd⟩) (.refl _) (.cons m0 (.eq m2 (by first | rfl | (congr 1 <;> omega) | exact congrArg (fun z : Nat => Value.int .i64 (z : Int)) mod_step | (rw [Nat.pow_zero, Nat.mod_one]; rfl)) (.cons m1 (.cons m3 (.cons m4 .nil))))) ?_))))))))))))
 rintro k ⟨hI1, hI2⟩
 have hm := Nat.mod_lt x (Nat.two_pow_pos k)
 refine CT.q (TL.val (n_lss k n T0 T2) (TL.e (CT.seq (CT.ifd m0 (fun c9 => ?_) (fun c9 => ?_)))))
 ·
  refine CT.z (EX.seq (CT.seq (CT.block (CT.q (TL.m m0 (TL.a m0 (TL.b (.hd .u1) (CT.region (TL.m m2 (TL.m m6 (TL.call (r_call ce_71 (.cons T0 .nil)) (fun w hS => t71 (b := (x.testBit k)) (rest := ((nbits n x).drop (k + 1) ++ rest)) (by omega) (by rw [hI2, nbits_drop c9]; rfl) hS) ?_)))))))))))
  rintro _ w13 ⟨rfl, hS⟩
  exact TW.at hS (TL.m m3 (TL.val (n_shl ((Bool.toNat (x.testBit k))) k 9223372036854775808 T1 T0 rfl rfl (show _ ≤ 64 by omega) (by have := two_pow_le (k := k) (n := n) c9 hn; cases x.testBit k <;> simp [Bool.toNat] <;> omega)) (TL.val (n_or ((x % 2 ^ k)) (((Bool.toNat (x.testBit k)) * 2 ^ k)) 9223372036854775808 T4 T0 rfl rfl (by have := two_pow_le (k := k) (n := n) c9 hn; cases x.testBit k <;> simp [Bool.toNat] <;> omega) (by have := two_pow_le (k := k) (n := n) c9 hn; cases x.testBit k <;> simp [Bool.toNat] <;> omega)) (TL.rm .h8 (TL.a m0 (TL.x (.hd .u6) (EX.bnormal (EX.seq (CT.region (TL.val (n_add k 1 9223372036854775808 T2 .c) (TL.rm .h3 (TL.m m0 (TL.x (.hd .u1) (EX.fold (A' := (Sp p sv (B) (at_ + (k + 1)) dv out ((-1)))) a0 (Sp_eq (by omega) rfl) (EX.again (k + 1) (⟨by omega, (drop_cons (show B.drop (at_ + k) = x.testBit k :: ((nbits n x).drop (k + 1) ++ rest) by rw [hI2, nbits_drop c9]; rfl)).2.2⟩) (by omega) (.refl _) (.eq m0 (by first | rfl | (congr 1 <;> omega) | exact congrArg (fun z : Nat => Value.int .i64 (z : Int)) mod_step | (rw [Nat.pow_zero, Nat.mod_one]; rfl)) (.eq m1 (by first | rfl | (congr 1 <;> omega) | exact congrArg (fun z : Nat => Value.int .i64 (z : Int)) mod_step | (rw [Nat.pow_zero, Nat.mod_one]; rfl)) (.sl 3 3 rfl))))))))))))))))))
 exact CT.sub .u1 (CT.exit (EX.then_exit (EX.then_exit (EX.out (EX.q (TL.m m1 (TL.rm .h4 (TL.a m0 (TL.b (.hd .u1) (CT.ret (EX.end_ (.inl rfl) (res1 Tryz.results72 m0) (fun _ hS => ⟨by obtain rfl : k = n := (by omega); rw [Nat.mod_eq_of_lt hx], by obtain rfl : k = n := (by omega); exact hS⟩))))))))))))
theorem t91 {p at_ : Nat} {sv dv : Value} {B : List Bool} {out : List Nat} (x : Nat) (ho : out.length < 131072) {G : World} {R : List HProp} {w : World} (hS : Sat G w ((Sp p sv (B) at_ dv out ((-1))) :: R)) :
 CallsR Tryz.prog 91 #[(pt p 0), (u8 x)] w (fun v w' => v = .tuple #[] ∧ Sat G w' (Sp p sv B at_ dv (out ++ [x]) (-1) :: R)) := by
 refine calls_in (n := 25) [(0, (pt p 0)), (1, (u8 x))] Tryz.func91 rfl rfl hS args2 ?_
 refine CT.seq (CT.q (TL.m m0 (TL.call (r_call ce_47 (.cons T0 .nil)) (fun w hS => t47 (r := true) (by decide) hS) ?_)))
 rintro _ w5 ⟨rfl, hS⟩
 refine TW.at hS (TL.val (r_nott T0) (TL.b (.hd .u2) (CT.iff_ m0 ?_)))
 refine CT.z (EX.seq (CT.seq (CT.seq (CT.sp ?_))))
 intro ov1
 refine CT.region (TL.m m0 (TL.c m0 (TL.f 3 fo_56_3 m0 (TL.val (r_ld (v := ov1) Tryz.isAgg22 m0 T0 (by decide) rfl) (TL.val (r_lens Tryz.underlying22 T0 m2) (TL.val (n_geq ((out).length) 131072 T0 .c) (TL.b (.hd .u5) (CT.ifd m0 (fun c12 => ?_) (fun c12 => ?_)))))))))
 ·
  exfalso; omega
 refine CT.z (EX.seq (CT.region (TL.m m0 (TL.m m1 (TL.c m0 (TL.f 3 fo_56_3 m0 (TL.val (r_ld (v := ov1) Tryz.isAgg22 m0 T0 (by decide) rfl) (TL.m m6 (TL.w (r_buildSlice (k := 1) (e := 5) (cs := #[(u8 x)]) (F := lst [(u8 x)]) (.cons T0 .nil) (fun _ => by kernel_rfl) rfl lst_ok) ?_)))))))))
 rintro _ w21 ⟨b21, rfl, hS⟩
 refine TW.at hS (TL.perm p3 (TL.w (r_append (j := 1) (k := (out).length) (ds := [(u8 x)]) el_22 Tryz.underlying22 T2 T0 ⟨_, _, rfl⟩ (rdsl m1 rfl rfl) ones1 (by omega) (by omega)) ?_))
 rintro v22 w22 hS
 have ho22 := hS.slc_one
 refine TW.at hS (TL.fold (A' := (slc 1 v22 ((out ++ [x]).length) ((out ++ [x]).map u8))) a0 (slc_eq (by rw [List.length_append, List.length_singleton]) map_snoc) ?_)
 refine TL.c m7 (TL.f 3 fo_56_3 m0 (TL.s (r_stl (l' := [sv, (i64 at_), dv, v22, (.int .i64 ((-1)))]) Tryz.sizeOf22 a2 T0 T2 (by decide) (hv := by assumption)) (TL.x (.tl (.tl (.tl (.tl (.tl (.tl (.tl (.tl (.tl (.tl (.hd .u1))))))))))) (EX.perm p3 (EX.perm p3 (EX.unsp ?_))))))
 exact EX.end_ (.inr rfl) (res0 Tryz.results91) (fun _ hS => ⟨rfl, hS.perm (List.Perm.refl _) |>.keep1⟩)
end Go.Eng
namespace Go.Eng
open Go Go.Proofs Go.Infl
theorem t73 {p at_ : Nat} {sv dv : Value} {B : List Bool} {out : List Nat} (ps : List Bool) (xs : List Nat) {rest : List Bool} (hA : B.length < 9223372036854775000) (hps : ps.length < 8) (hal : (at_ + ps.length) % 8 = 0) (hxl : xs.length ≤ 65535) (hxs : ∀ x ∈ xs, x < 256) (ho : out.length + xs.length ≤ 131072) (hd : B.drop at_ = ps ++ (nbits 16 xs.length ++ (nbits 16 (65535 - xs.length) ++ (xs.flatMap (nbits 8) ++ rest)))) {G : World} {R : List HProp} {w : World} (hS : Sat G w ((Sp p sv (B) at_ dv out ((-1))) :: R)) :
 CallsR Tryz.prog 73 #[(pt p 0)] w (fun v w' => v = .tuple #[] ∧ Sat G w' (Sp p sv B (at_ + ps.length + 32 + 8 * xs.length) dv (out ++ xs) (-1) :: R)) := by
 have hlen := congrArg List.length hd
 simp only [List.length_drop, List.length_append, nbits_length] at hlen
 have hd1 := drop_app hd
 have hd2 := drop_app hd1
 rw [nbits_length] at hd2
 have hd3 := drop_app hd2
 rw [nbits_length] at hd3
 refine calls_in (n := 45) [(0, (pt p 0))] Tryz.func73 rfl rfl hS args1 ?_
 refine CT.seq (CT.sp ?_)
 intro ov1
 refine CT.region (TL.m m0 (TL.m m1 (TL.c m0 (TL.f 1 fo_56_1 m0 (TL.val (r_ld (v := (i64 at_)) Tryz.isAgg3 m0 T0 (by decide) rfl) (TL.val (n_add at_ 7 9223372036854775808 T0 .c) (TL.val (n_quo ((at_ + 7)) 8 9223372036854775808 T0 .c rfl rfl (by omega) (by omega)) (TL.val (n_mul (((at_ + 7) / 8)) 8 9223372036854775808 T0 .c) (TL.c m7 (TL.f 1 fo_56_1 m0 (TL.s (r_stl (l' := [sv, (i64 (((at_ + 7) / 8) * 8)), dv, ov1, (.int .i64 ((-1)))]) Tryz.sizeOf3 a0 T0 T2 (by decide)) (TL.sub .u10 (TL.perm p2 (TL.perm p2 (TL.perm p2 (TL.unsp ?_))))))))))))))))
 refine TL.fold (A' := (Sp p sv (B) (at_ + ps.length) dv out ((-1)))) a0 (Sp_eq (by omega) rfl) ?_
 refine TL.q (TL.m m0 (TL.call (r_call ce_72 (.cons T0 (.cons .c .nil))) (fun w hS => t72 xs.length 16 (rest := (nbits 16 (65535 - xs.length) ++ (xs.flatMap (nbits 8) ++ rest))) (by omega) (by decide) (by omega) hd1 hS) ?_))
 rintro _ w17 ⟨rfl, hS⟩
 refine TW.at hS (TL.a m0 (TL.r (.hd .u2) (TL.m m1 (TL.call (r_call ce_72 (.cons T0 (.cons .c .nil))) (fun w hS => t72 (65535 - xs.length) 16 (rest := (xs.flatMap (nbits 8) ++ rest)) (by omega) (by decide) (by omega) hd2 hS) ?_))))
 rintro _ w19 ⟨rfl, hS⟩
 refine TW.at hS (TL.a m0 (TL.b (.hd .u2) (CT.seq (CT.q (TL.m m2 (TL.call (r_call ce_47 (.cons T0 .nil)) (fun w hS => t47 (r := true) (by decide) hS) ?_))))))
 rintro _ w21 ⟨rfl, hS⟩
 refine TW.at hS (TL.m m0 (TL.gv m0 (r_move T4) (TL.gv m1 (r_move T4) (TL.gv m2 (n_add (xs.length) ((65535 - xs.length)) 9223372036854775808 T1 T0) (TL.gv m3 (n_neq ((xs.length + (65535 - xs.length))) 65535 T0 .c) (TL.val (r_pickt T4 T0) (TL.b (.hd .u8) (CT.ifd m0 (fun c27 => ?_) (fun c27 => ?_)))))))))
 ·
  exfalso; omega
 refine CT.z (EX.q (TL.val (r_asg .c) (TL.e (CT.block (CT.fold (A' := (Sp p sv (B) (at_ + ps.length + 32 + 8 * 0) dv (out ++ xs.take 0) ((-1)))) a0 (Sp_eq (by omega) (by simp)) (CT.loop (X := Nat) (fun gx => [(4, (i64 gx)), (2, (i64 xs.length)), (0, (pt p 0))]) (fun gx => (Sp p sv (B) (at_ + ps.length + 32 + 8 * gx) dv (out ++ xs.take gx) ((-1))) :: R) (fun gx => gx ≤ xs.length ∧ B.drop (at_ + ps.length + 32 + 8 * gx) = (xs.drop gx).flatMap (nbits 8) ++ rest) (fun gx => xs.length - gx) 0 (⟨Nat.zero_le _, hd3⟩) (.refl _) (.sl 0 3 rfl) ?_))))))
 rintro k ⟨hI1, hI2⟩
 refine CT.seq (CT.q (TL.m m0 (TL.m m2 (TL.val (n_lss k (xs.length) T1 T0) (TL.m m0 ?_)))))
 by_cases g33 : k < (xs.length)
 ·
  refine TL.sub (.eq m0 (congrArg Value.bool (decide_eq_true g33)) (.eq m1 (congrArg Value.bool (decide_eq_true g33)) (.cons m2 (.cons m3 (.cons m4 (.cons m5 (.cons m6 .nil))))))) (TL.gv m0 (r_move T6) (TL.gcall m1 (r_call ce_47 (.cons T0 .nil)) (fun w hS => t47 (r := true) (by decide) hS) ?_))
  rintro _ w35 ⟨rfl, hS⟩
  refine TW.at hS (TL.val (r_pickt T2 T0) (TL.b (.hd .u6) (CT.ift m0 ?_)))
  refine CT.z (EX.seq (CT.seq (CT.block (CT.seq ?_))))
  obtain ⟨x1, hx1, hl1⟩ := src_get hxs g33
  have hd4 : B.drop (at_ + ps.length + 32 + 8 * (k + 1)) = (xs.drop (k + 1)).flatMap (nbits 8) ++ rest := by
   have h5 : B.drop (at_ + ps.length + 32 + 8 * k) = nbits 8 x1 ++ ((xs.drop (k + 1)).flatMap (nbits 8) ++ rest) := by rw [hI2, List.drop_eq_getElem_cons g33, (List.getElem?_eq_some_iff.1 hx1).2, List.flatMap_cons, List.append_assoc]
   have := drop_app h5
   rw [nbits_length] at this
   exact this
  refine CT.region (TL.m m2 (TL.call (r_call ce_72 (.cons T0 (.cons .c .nil))) (fun w hS => t72 x1 8 (rest := ((xs.drop (k + 1)).flatMap (nbits 8) ++ rest)) (by omega) (by decide) (by omega) (by rw [hI2, List.drop_eq_getElem_cons g33, (List.getElem?_eq_some_iff.1 hx1).2]; rw [List.flatMap_cons, List.append_assoc]) hS) ?_))
  rintro _ w40 ⟨rfl, hS⟩
  refine TW.at hS (TL.a m0 (TL.b (.hd .u2) (CT.region (TL.m m3 (TL.m m1 (TL.val (n_conv (x1) 256 ⟨_, Tryz.underlying3⟩ Tryz.underlying5 T0 rfl (by omega)) (TL.call (r_call ce_91 (.cons T2 (.cons T0 .nil))) (fun w hS => t91 (x1) (by rw [List.length_append, List.length_take]; omega) hS) ?_)))))))
  rintro _ w44 ⟨rfl, hS⟩
  exact TW.at hS (TL.x .u4 (EX.bnormal (EX.seq (CT.region (TL.m m1 (TL.val (n_add k 1 9223372036854775808 T0 .c) (TL.rm .h3 (TL.a m0 (TL.x (.hd .u2) (EX.fold (A' := (Sp p sv (B) (at_ + ps.length + 32 + 8 * (k + 1)) dv (out ++ xs.take (k + 1)) ((-1)))) a0 (Sp_eq (by omega) (by rw [List.take_add_one, hx1, List.append_assoc]; rfl)) (EX.again (k + 1) (⟨by omega, hd4⟩) (by omega) (.refl _) (.eq m0 (by first | rfl | (congr 1 <;> omega)) (.cons m2 (.cons m3 .nil))))))))))))))
 refine TL.sub (.eq m0 (congrArg Value.bool (decide_eq_false g33)) (.eq m1 (congrArg Value.bool (decide_eq_false g33)) (.cons m2 (.cons m3 (.cons m4 (.cons m5 (.cons m6 .nil))))))) (TL.gn m0 (TL.gn m0 (TL.val (r_pickf T0 .c) (TL.b (.hd .u4) (CT.iff_ m0 ?_)))))
 exact CT.sub .u1 (CT.exit (EX.then_exit (EX.then_exit (EX.out (EX.end_ (.inr rfl) (res0 Tryz.results73) (fun _ hS => ⟨rfl, by obtain rfl : k = xs.length := (by omega); rw [List.take_length] at hS; exact hS⟩))))))
end Go.Eng
