/- The judgements of this seat's walks: temporaries as a list, memory as a list of assertions; one rule for each form of code. -/
import Derived.Test.YtkpadembffdepaaGreatDoorEa
namespace Go.Eng
open Go

abbrev Env := List (Nat × Value)
structure Ok (ρ : Env) (n : Nat) (a : Act) : Prop where
  size : a.tmps.size = n
  defers : a.defers = []
  vals : ∀ t v, (t, v) ∈ ρ → a.tmps.getD t undef = v

def chk (d n : Nat) (ρ : Env) : Bool := Nat.blt d n && ρ.all (fun x => !(Nat.beq x.1 d))

theorem Ok.put {ρ : Env} {n d : Nat} {a : Act} {v : Value} (h : Ok ρ n a) (hc : chk d n ρ = true) : Ok ((d, v) :: ρ) n (a.put (some d) v) := by
  unfold chk at hc
  simp only [Bool.and_eq_true, List.all_eq_true, Bool.not_eq_true'] at hc
  obtain ⟨h1, h2⟩ := hc
  have hd : d < n := by simpa [Nat.blt_eq] using h1
  refine ⟨by simp [Act.put, h.size], h.defers, fun t u hm => ?_⟩
  cases hm with
  | head => simp [Act.put, h.size, hd]
  | tail _ hm =>
    have hne : ¬ t = d := fun e => by
      have := h2 _ hm
      simp only at this
      subst e
      rw [Nat.beq_refl] at this
      cases this
    have hv := h.vals t u hm
    simp only [Act.put, Array.getD_eq_getD_getElem?] at *
    rw [Array.getElem?_setIfInBounds_ne (fun e => hne e.symm)]
    exact hv

/-- 'd' is written, whatever it is good for afterwards. -/
theorem Ok.forget {ρ : Env} {n d : Nat} {a : Act} {v : Value} (h : Ok ρ n a) (hc : ρ.all (fun x => !(Nat.beq x.1 d)) = true) : Ok ρ n (a.put (some d) v) := by
  simp only [List.all_eq_true, Bool.not_eq_true'] at hc
  refine ⟨by simp [Act.put, h.size], h.defers, fun t u hm => ?_⟩
  have hne : ¬ t = d := fun e => by
    have := hc _ hm
    simp only at this
    subst e
    rw [Nat.beq_refl] at this
    cases this
  have hv := h.vals t u hm
  simp only [Act.put, Array.getD_eq_getD_getElem?] at *
  rw [Array.getElem?_setIfInBounds_ne (fun e => hne e.symm)]
  exact hv

def Sub (ρ' ρ : Env) : Prop := ∀ x ∈ ρ', x ∈ ρ
theorem Sub.nil {ρ : Env} : Sub [] ρ := fun _ h => by cases h
theorem Sub.cons {ρ ρ' : Env} {t : Nat} {v : Value} (h : (t, v) ∈ ρ) (hs : Sub ρ' ρ) : Sub ((t, v) :: ρ') ρ := fun x hx => by
  cases hx with
  | head => exact h
  | tail _ hx => exact hs x hx
theorem Sub.eq {ρ ρ' : Env} {t : Nat} {v v' : Value} (h : (t, v) ∈ ρ) (e : v = v') (hs : Sub ρ' ρ) : Sub ((t, v') :: ρ') ρ := Sub.cons (e ▸ h) hs
theorem Sub.refl {ρ : Env} : Sub ρ ρ := fun _ h => h
theorem Sub.tl {ρ ρ' : Env} {x : Nat × Value} (hs : Sub ρ' ρ) : Sub ρ' (x :: ρ) := fun y hy => .tail _ (hs y hy)
theorem Sub.hd {ρ ρ' : Env} {x : Nat × Value} (hs : Sub ρ' ρ) : Sub (x :: ρ') (x :: ρ) := fun y hy => by
  cases hy with
  | head => exact .head _
  | tail _ hy => exact .tail _ (hs y hy)
theorem Ok.sub {ρ ρ' : Env} {n : Nat} {a : Act} (h : Ok ρ n a) (hs : Sub ρ' ρ) : Ok ρ' n a := ⟨h.size, h.defers, fun t v hm => h.vals t v (hs _ hm)⟩
/-- One of the temporaries is forgotten. -/
inductive Rm (d : Nat) : Env → Env → Prop
  | here {v ρ} : Rm d ((d, v) :: ρ) ρ
  | there {x ρ ρ'} (h : Rm d ρ ρ') : Rm d (x :: ρ) (x :: ρ')
theorem Rm.sub {d : Nat} {ρ ρ' : Env} (h : Rm d ρ ρ') : Sub ρ' ρ := by
  induction h with
  | here => exact Sub.refl.tl
  | there _ ih => exact ih.hd

theorem m0 {α : Type} {x : α} {l : List α} : x ∈ x :: l := .head _
theorem m1 {α : Type} {x : α} {y0 : α} {l : List α} : x ∈ y0 :: x :: l := .tail _ m0
theorem m2 {α : Type} {x : α} {y0 y1 : α} {l : List α} : x ∈ y0 :: y1 :: x :: l := .tail _ m1
theorem m3 {α : Type} {x : α} {y0 y1 y2 : α} {l : List α} : x ∈ y0 :: y1 :: y2 :: x :: l := .tail _ m2
theorem m4 {α : Type} {x : α} {y0 y1 y2 y3 : α} {l : List α} : x ∈ y0 :: y1 :: y2 :: y3 :: x :: l := .tail _ m3
theorem m5 {α : Type} {x : α} {y0 y1 y2 y3 y4 : α} {l : List α} : x ∈ y0 :: y1 :: y2 :: y3 :: y4 :: x :: l := .tail _ m4
theorem m6 {α : Type} {x : α} {y0 y1 y2 y3 y4 y5 : α} {l : List α} : x ∈ y0 :: y1 :: y2 :: y3 :: y4 :: y5 :: x :: l := .tail _ m5
theorem m7 {α : Type} {x : α} {y0 y1 y2 y3 y4 y5 y6 : α} {l : List α} : x ∈ y0 :: y1 :: y2 :: y3 :: y4 :: y5 :: y6 :: x :: l := .tail _ m6
theorem m8 {α : Type} {x : α} {y0 y1 y2 y3 y4 y5 y6 y7 : α} {l : List α} : x ∈ y0 :: y1 :: y2 :: y3 :: y4 :: y5 :: y6 :: y7 :: x :: l := .tail _ m7
theorem m9 {α : Type} {x : α} {y0 y1 y2 y3 y4 y5 y6 y7 y8 : α} {l : List α} : x ∈ y0 :: y1 :: y2 :: y3 :: y4 :: y5 :: y6 :: y7 :: y8 :: x :: l := .tail _ m8
theorem m10 {α : Type} {x : α} {y0 y1 y2 y3 y4 y5 y6 y7 y8 y9 : α} {l : List α} : x ∈ y0 :: y1 :: y2 :: y3 :: y4 :: y5 :: y6 :: y7 :: y8 :: y9 :: x :: l := .tail _ m9
theorem m11 {α : Type} {x : α} {y0 y1 y2 y3 y4 y5 y6 y7 y8 y9 y10 : α} {l : List α} : x ∈ y0 :: y1 :: y2 :: y3 :: y4 :: y5 :: y6 :: y7 :: y8 :: y9 :: y10 :: x :: l := .tail _ m10
theorem m12 {α : Type} {x : α} {y0 y1 y2 y3 y4 y5 y6 y7 y8 y9 y10 y11 : α} {l : List α} : x ∈ y0 :: y1 :: y2 :: y3 :: y4 :: y5 :: y6 :: y7 :: y8 :: y9 :: y10 :: y11 :: x :: l := .tail _ m11
theorem m13 {α : Type} {x : α} {y0 y1 y2 y3 y4 y5 y6 y7 y8 y9 y10 y11 y12 : α} {l : List α} : x ∈ y0 :: y1 :: y2 :: y3 :: y4 :: y5 :: y6 :: y7 :: y8 :: y9 :: y10 :: y11 :: y12 :: x :: l := .tail _ m12
theorem m14 {α : Type} {x : α} {y0 y1 y2 y3 y4 y5 y6 y7 y8 y9 y10 y11 y12 y13 : α} {l : List α} : x ∈ y0 :: y1 :: y2 :: y3 :: y4 :: y5 :: y6 :: y7 :: y8 :: y9 :: y10 :: y11 :: y12 :: y13 :: x :: l := .tail _ m13
theorem m15 {α : Type} {x : α} {y0 y1 y2 y3 y4 y5 y6 y7 y8 y9 y10 y11 y12 y13 y14 : α} {l : List α} : x ∈ y0 :: y1 :: y2 :: y3 :: y4 :: y5 :: y6 :: y7 :: y8 :: y9 :: y10 :: y11 :: y12 :: y13 :: y14 :: x :: l := .tail _ m14
theorem m16 {α : Type} {x : α} {y0 y1 y2 y3 y4 y5 y6 y7 y8 y9 y10 y11 y12 y13 y14 y15 : α} {l : List α} : x ∈ y0 :: y1 :: y2 :: y3 :: y4 :: y5 :: y6 :: y7 :: y8 :: y9 :: y10 :: y11 :: y12 :: y13 :: y14 :: y15 :: x :: l := .tail _ m15
theorem m17 {α : Type} {x : α} {y0 y1 y2 y3 y4 y5 y6 y7 y8 y9 y10 y11 y12 y13 y14 y15 y16 : α} {l : List α} : x ∈ y0 :: y1 :: y2 :: y3 :: y4 :: y5 :: y6 :: y7 :: y8 :: y9 :: y10 :: y11 :: y12 :: y13 :: y14 :: y15 :: y16 :: x :: l := .tail _ m16
theorem m18 {α : Type} {x : α} {y0 y1 y2 y3 y4 y5 y6 y7 y8 y9 y10 y11 y12 y13 y14 y15 y16 y17 : α} {l : List α} : x ∈ y0 :: y1 :: y2 :: y3 :: y4 :: y5 :: y6 :: y7 :: y8 :: y9 :: y10 :: y11 :: y12 :: y13 :: y14 :: y15 :: y16 :: y17 :: x :: l := .tail _ m17
theorem m19 {α : Type} {x : α} {y0 y1 y2 y3 y4 y5 y6 y7 y8 y9 y10 y11 y12 y13 y14 y15 y16 y17 y18 : α} {l : List α} : x ∈ y0 :: y1 :: y2 :: y3 :: y4 :: y5 :: y6 :: y7 :: y8 :: y9 :: y10 :: y11 :: y12 :: y13 :: y14 :: y15 :: y16 :: y17 :: y18 :: x :: l := .tail _ m18
theorem m20 {α : Type} {x : α} {y0 y1 y2 y3 y4 y5 y6 y7 y8 y9 y10 y11 y12 y13 y14 y15 y16 y17 y18 y19 : α} {l : List α} : x ∈ y0 :: y1 :: y2 :: y3 :: y4 :: y5 :: y6 :: y7 :: y8 :: y9 :: y10 :: y11 :: y12 :: y13 :: y14 :: y15 :: y16 :: y17 :: y18 :: y19 :: x :: l := .tail _ m19
theorem m21 {α : Type} {x : α} {y0 y1 y2 y3 y4 y5 y6 y7 y8 y9 y10 y11 y12 y13 y14 y15 y16 y17 y18 y19 y20 : α} {l : List α} : x ∈ y0 :: y1 :: y2 :: y3 :: y4 :: y5 :: y6 :: y7 :: y8 :: y9 :: y10 :: y11 :: y12 :: y13 :: y14 :: y15 :: y16 :: y17 :: y18 :: y19 :: y20 :: x :: l := .tail _ m20
theorem m22 {α : Type} {x : α} {y0 y1 y2 y3 y4 y5 y6 y7 y8 y9 y10 y11 y12 y13 y14 y15 y16 y17 y18 y19 y20 y21 : α} {l : List α} : x ∈ y0 :: y1 :: y2 :: y3 :: y4 :: y5 :: y6 :: y7 :: y8 :: y9 :: y10 :: y11 :: y12 :: y13 :: y14 :: y15 :: y16 :: y17 :: y18 :: y19 :: y20 :: y21 :: x :: l := .tail _ m21
theorem m23 {α : Type} {x : α} {y0 y1 y2 y3 y4 y5 y6 y7 y8 y9 y10 y11 y12 y13 y14 y15 y16 y17 y18 y19 y20 y21 y22 : α} {l : List α} : x ∈ y0 :: y1 :: y2 :: y3 :: y4 :: y5 :: y6 :: y7 :: y8 :: y9 :: y10 :: y11 :: y12 :: y13 :: y14 :: y15 :: y16 :: y17 :: y18 :: y19 :: y20 :: y21 :: y22 :: x :: l := .tail _ m22
theorem m24 {α : Type} {x : α} {y0 y1 y2 y3 y4 y5 y6 y7 y8 y9 y10 y11 y12 y13 y14 y15 y16 y17 y18 y19 y20 y21 y22 y23 : α} {l : List α} : x ∈ y0 :: y1 :: y2 :: y3 :: y4 :: y5 :: y6 :: y7 :: y8 :: y9 :: y10 :: y11 :: y12 :: y13 :: y14 :: y15 :: y16 :: y17 :: y18 :: y19 :: y20 :: y21 :: y22 :: y23 :: x :: l := .tail _ m23
theorem m25 {α : Type} {x : α} {y0 y1 y2 y3 y4 y5 y6 y7 y8 y9 y10 y11 y12 y13 y14 y15 y16 y17 y18 y19 y20 y21 y22 y23 y24 : α} {l : List α} : x ∈ y0 :: y1 :: y2 :: y3 :: y4 :: y5 :: y6 :: y7 :: y8 :: y9 :: y10 :: y11 :: y12 :: y13 :: y14 :: y15 :: y16 :: y17 :: y18 :: y19 :: y20 :: y21 :: y22 :: y23 :: y24 :: x :: l := .tail _ m24
theorem m26 {α : Type} {x : α} {y0 y1 y2 y3 y4 y5 y6 y7 y8 y9 y10 y11 y12 y13 y14 y15 y16 y17 y18 y19 y20 y21 y22 y23 y24 y25 : α} {l : List α} : x ∈ y0 :: y1 :: y2 :: y3 :: y4 :: y5 :: y6 :: y7 :: y8 :: y9 :: y10 :: y11 :: y12 :: y13 :: y14 :: y15 :: y16 :: y17 :: y18 :: y19 :: y20 :: y21 :: y22 :: y23 :: y24 :: y25 :: x :: l := .tail _ m25
theorem m27 {α : Type} {x : α} {y0 y1 y2 y3 y4 y5 y6 y7 y8 y9 y10 y11 y12 y13 y14 y15 y16 y17 y18 y19 y20 y21 y22 y23 y24 y25 y26 : α} {l : List α} : x ∈ y0 :: y1 :: y2 :: y3 :: y4 :: y5 :: y6 :: y7 :: y8 :: y9 :: y10 :: y11 :: y12 :: y13 :: y14 :: y15 :: y16 :: y17 :: y18 :: y19 :: y20 :: y21 :: y22 :: y23 :: y24 :: y25 :: y26 :: x :: l := .tail _ m26
theorem m28 {α : Type} {x : α} {y0 y1 y2 y3 y4 y5 y6 y7 y8 y9 y10 y11 y12 y13 y14 y15 y16 y17 y18 y19 y20 y21 y22 y23 y24 y25 y26 y27 : α} {l : List α} : x ∈ y0 :: y1 :: y2 :: y3 :: y4 :: y5 :: y6 :: y7 :: y8 :: y9 :: y10 :: y11 :: y12 :: y13 :: y14 :: y15 :: y16 :: y17 :: y18 :: y19 :: y20 :: y21 :: y22 :: y23 :: y24 :: y25 :: y26 :: y27 :: x :: l := .tail _ m27
theorem m29 {α : Type} {x : α} {y0 y1 y2 y3 y4 y5 y6 y7 y8 y9 y10 y11 y12 y13 y14 y15 y16 y17 y18 y19 y20 y21 y22 y23 y24 y25 y26 y27 y28 : α} {l : List α} : x ∈ y0 :: y1 :: y2 :: y3 :: y4 :: y5 :: y6 :: y7 :: y8 :: y9 :: y10 :: y11 :: y12 :: y13 :: y14 :: y15 :: y16 :: y17 :: y18 :: y19 :: y20 :: y21 :: y22 :: y23 :: y24 :: y25 :: y26 :: y27 :: y28 :: x :: l := .tail _ m28
theorem m30 {α : Type} {x : α} {y0 y1 y2 y3 y4 y5 y6 y7 y8 y9 y10 y11 y12 y13 y14 y15 y16 y17 y18 y19 y20 y21 y22 y23 y24 y25 y26 y27 y28 y29 : α} {l : List α} : x ∈ y0 :: y1 :: y2 :: y3 :: y4 :: y5 :: y6 :: y7 :: y8 :: y9 :: y10 :: y11 :: y12 :: y13 :: y14 :: y15 :: y16 :: y17 :: y18 :: y19 :: y20 :: y21 :: y22 :: y23 :: y24 :: y25 :: y26 :: y27 :: y28 :: y29 :: x :: l := .tail _ m29
theorem m31 {α : Type} {x : α} {y0 y1 y2 y3 y4 y5 y6 y7 y8 y9 y10 y11 y12 y13 y14 y15 y16 y17 y18 y19 y20 y21 y22 y23 y24 y25 y26 y27 y28 y29 y30 : α} {l : List α} : x ∈ y0 :: y1 :: y2 :: y3 :: y4 :: y5 :: y6 :: y7 :: y8 :: y9 :: y10 :: y11 :: y12 :: y13 :: y14 :: y15 :: y16 :: y17 :: y18 :: y19 :: y20 :: y21 :: y22 :: y23 :: y24 :: y25 :: y26 :: y27 :: y28 :: y29 :: y30 :: x :: l := .tail _ m30
theorem m32 {α : Type} {x : α} {y0 y1 y2 y3 y4 y5 y6 y7 y8 y9 y10 y11 y12 y13 y14 y15 y16 y17 y18 y19 y20 y21 y22 y23 y24 y25 y26 y27 y28 y29 y30 y31 : α} {l : List α} : x ∈ y0 :: y1 :: y2 :: y3 :: y4 :: y5 :: y6 :: y7 :: y8 :: y9 :: y10 :: y11 :: y12 :: y13 :: y14 :: y15 :: y16 :: y17 :: y18 :: y19 :: y20 :: y21 :: y22 :: y23 :: y24 :: y25 :: y26 :: y27 :: y28 :: y29 :: y30 :: y31 :: x :: l := .tail _ m31
theorem m33 {α : Type} {x : α} {y0 y1 y2 y3 y4 y5 y6 y7 y8 y9 y10 y11 y12 y13 y14 y15 y16 y17 y18 y19 y20 y21 y22 y23 y24 y25 y26 y27 y28 y29 y30 y31 y32 : α} {l : List α} : x ∈ y0 :: y1 :: y2 :: y3 :: y4 :: y5 :: y6 :: y7 :: y8 :: y9 :: y10 :: y11 :: y12 :: y13 :: y14 :: y15 :: y16 :: y17 :: y18 :: y19 :: y20 :: y21 :: y22 :: y23 :: y24 :: y25 :: y26 :: y27 :: y28 :: y29 :: y30 :: y31 :: y32 :: x :: l := .tail _ m32
theorem m34 {α : Type} {x : α} {y0 y1 y2 y3 y4 y5 y6 y7 y8 y9 y10 y11 y12 y13 y14 y15 y16 y17 y18 y19 y20 y21 y22 y23 y24 y25 y26 y27 y28 y29 y30 y31 y32 y33 : α} {l : List α} : x ∈ y0 :: y1 :: y2 :: y3 :: y4 :: y5 :: y6 :: y7 :: y8 :: y9 :: y10 :: y11 :: y12 :: y13 :: y14 :: y15 :: y16 :: y17 :: y18 :: y19 :: y20 :: y21 :: y22 :: y23 :: y24 :: y25 :: y26 :: y27 :: y28 :: y29 :: y30 :: y31 :: y32 :: y33 :: x :: l := .tail _ m33
theorem m35 {α : Type} {x : α} {y0 y1 y2 y3 y4 y5 y6 y7 y8 y9 y10 y11 y12 y13 y14 y15 y16 y17 y18 y19 y20 y21 y22 y23 y24 y25 y26 y27 y28 y29 y30 y31 y32 y33 y34 : α} {l : List α} : x ∈ y0 :: y1 :: y2 :: y3 :: y4 :: y5 :: y6 :: y7 :: y8 :: y9 :: y10 :: y11 :: y12 :: y13 :: y14 :: y15 :: y16 :: y17 :: y18 :: y19 :: y20 :: y21 :: y22 :: y23 :: y24 :: y25 :: y26 :: y27 :: y28 :: y29 :: y30 :: y31 :: y32 :: y33 :: y34 :: x :: l := .tail _ m34
theorem m36 {α : Type} {x : α} {y0 y1 y2 y3 y4 y5 y6 y7 y8 y9 y10 y11 y12 y13 y14 y15 y16 y17 y18 y19 y20 y21 y22 y23 y24 y25 y26 y27 y28 y29 y30 y31 y32 y33 y34 y35 : α} {l : List α} : x ∈ y0 :: y1 :: y2 :: y3 :: y4 :: y5 :: y6 :: y7 :: y8 :: y9 :: y10 :: y11 :: y12 :: y13 :: y14 :: y15 :: y16 :: y17 :: y18 :: y19 :: y20 :: y21 :: y22 :: y23 :: y24 :: y25 :: y26 :: y27 :: y28 :: y29 :: y30 :: y31 :: y32 :: y33 :: y34 :: y35 :: x :: l := .tail _ m35
theorem m37 {α : Type} {x : α} {y0 y1 y2 y3 y4 y5 y6 y7 y8 y9 y10 y11 y12 y13 y14 y15 y16 y17 y18 y19 y20 y21 y22 y23 y24 y25 y26 y27 y28 y29 y30 y31 y32 y33 y34 y35 y36 : α} {l : List α} : x ∈ y0 :: y1 :: y2 :: y3 :: y4 :: y5 :: y6 :: y7 :: y8 :: y9 :: y10 :: y11 :: y12 :: y13 :: y14 :: y15 :: y16 :: y17 :: y18 :: y19 :: y20 :: y21 :: y22 :: y23 :: y24 :: y25 :: y26 :: y27 :: y28 :: y29 :: y30 :: y31 :: y32 :: y33 :: y34 :: y35 :: y36 :: x :: l := .tail _ m36
theorem m38 {α : Type} {x : α} {y0 y1 y2 y3 y4 y5 y6 y7 y8 y9 y10 y11 y12 y13 y14 y15 y16 y17 y18 y19 y20 y21 y22 y23 y24 y25 y26 y27 y28 y29 y30 y31 y32 y33 y34 y35 y36 y37 : α} {l : List α} : x ∈ y0 :: y1 :: y2 :: y3 :: y4 :: y5 :: y6 :: y7 :: y8 :: y9 :: y10 :: y11 :: y12 :: y13 :: y14 :: y15 :: y16 :: y17 :: y18 :: y19 :: y20 :: y21 :: y22 :: y23 :: y24 :: y25 :: y26 :: y27 :: y28 :: y29 :: y30 :: y31 :: y32 :: y33 :: y34 :: y35 :: y36 :: y37 :: x :: l := .tail _ m37
theorem m39 {α : Type} {x : α} {y0 y1 y2 y3 y4 y5 y6 y7 y8 y9 y10 y11 y12 y13 y14 y15 y16 y17 y18 y19 y20 y21 y22 y23 y24 y25 y26 y27 y28 y29 y30 y31 y32 y33 y34 y35 y36 y37 y38 : α} {l : List α} : x ∈ y0 :: y1 :: y2 :: y3 :: y4 :: y5 :: y6 :: y7 :: y8 :: y9 :: y10 :: y11 :: y12 :: y13 :: y14 :: y15 :: y16 :: y17 :: y18 :: y19 :: y20 :: y21 :: y22 :: y23 :: y24 :: y25 :: y26 :: y27 :: y28 :: y29 :: y30 :: y31 :: y32 :: y33 :: y34 :: y35 :: y36 :: y37 :: y38 :: x :: l := .tail _ m38
theorem m40 {α : Type} {x : α} {y0 y1 y2 y3 y4 y5 y6 y7 y8 y9 y10 y11 y12 y13 y14 y15 y16 y17 y18 y19 y20 y21 y22 y23 y24 y25 y26 y27 y28 y29 y30 y31 y32 y33 y34 y35 y36 y37 y38 y39 : α} {l : List α} : x ∈ y0 :: y1 :: y2 :: y3 :: y4 :: y5 :: y6 :: y7 :: y8 :: y9 :: y10 :: y11 :: y12 :: y13 :: y14 :: y15 :: y16 :: y17 :: y18 :: y19 :: y20 :: y21 :: y22 :: y23 :: y24 :: y25 :: y26 :: y27 :: y28 :: y29 :: y30 :: y31 :: y32 :: y33 :: y34 :: y35 :: y36 :: y37 :: y38 :: y39 :: x :: l := .tail _ m39
theorem m41 {α : Type} {x : α} {y0 y1 y2 y3 y4 y5 y6 y7 y8 y9 y10 y11 y12 y13 y14 y15 y16 y17 y18 y19 y20 y21 y22 y23 y24 y25 y26 y27 y28 y29 y30 y31 y32 y33 y34 y35 y36 y37 y38 y39 y40 : α} {l : List α} : x ∈ y0 :: y1 :: y2 :: y3 :: y4 :: y5 :: y6 :: y7 :: y8 :: y9 :: y10 :: y11 :: y12 :: y13 :: y14 :: y15 :: y16 :: y17 :: y18 :: y19 :: y20 :: y21 :: y22 :: y23 :: y24 :: y25 :: y26 :: y27 :: y28 :: y29 :: y30 :: y31 :: y32 :: y33 :: y34 :: y35 :: y36 :: y37 :: y38 :: y39 :: y40 :: x :: l := .tail _ m40
theorem m42 {α : Type} {x : α} {y0 y1 y2 y3 y4 y5 y6 y7 y8 y9 y10 y11 y12 y13 y14 y15 y16 y17 y18 y19 y20 y21 y22 y23 y24 y25 y26 y27 y28 y29 y30 y31 y32 y33 y34 y35 y36 y37 y38 y39 y40 y41 : α} {l : List α} : x ∈ y0 :: y1 :: y2 :: y3 :: y4 :: y5 :: y6 :: y7 :: y8 :: y9 :: y10 :: y11 :: y12 :: y13 :: y14 :: y15 :: y16 :: y17 :: y18 :: y19 :: y20 :: y21 :: y22 :: y23 :: y24 :: y25 :: y26 :: y27 :: y28 :: y29 :: y30 :: y31 :: y32 :: y33 :: y34 :: y35 :: y36 :: y37 :: y38 :: y39 :: y40 :: y41 :: x :: l := .tail _ m41
theorem m43 {α : Type} {x : α} {y0 y1 y2 y3 y4 y5 y6 y7 y8 y9 y10 y11 y12 y13 y14 y15 y16 y17 y18 y19 y20 y21 y22 y23 y24 y25 y26 y27 y28 y29 y30 y31 y32 y33 y34 y35 y36 y37 y38 y39 y40 y41 y42 : α} {l : List α} : x ∈ y0 :: y1 :: y2 :: y3 :: y4 :: y5 :: y6 :: y7 :: y8 :: y9 :: y10 :: y11 :: y12 :: y13 :: y14 :: y15 :: y16 :: y17 :: y18 :: y19 :: y20 :: y21 :: y22 :: y23 :: y24 :: y25 :: y26 :: y27 :: y28 :: y29 :: y30 :: y31 :: y32 :: y33 :: y34 :: y35 :: y36 :: y37 :: y38 :: y39 :: y40 :: y41 :: y42 :: x :: l := .tail _ m42
theorem m44 {α : Type} {x : α} {y0 y1 y2 y3 y4 y5 y6 y7 y8 y9 y10 y11 y12 y13 y14 y15 y16 y17 y18 y19 y20 y21 y22 y23 y24 y25 y26 y27 y28 y29 y30 y31 y32 y33 y34 y35 y36 y37 y38 y39 y40 y41 y42 y43 : α} {l : List α} : x ∈ y0 :: y1 :: y2 :: y3 :: y4 :: y5 :: y6 :: y7 :: y8 :: y9 :: y10 :: y11 :: y12 :: y13 :: y14 :: y15 :: y16 :: y17 :: y18 :: y19 :: y20 :: y21 :: y22 :: y23 :: y24 :: y25 :: y26 :: y27 :: y28 :: y29 :: y30 :: y31 :: y32 :: y33 :: y34 :: y35 :: y36 :: y37 :: y38 :: y39 :: y40 :: y41 :: y42 :: y43 :: x :: l := .tail _ m43
theorem m45 {α : Type} {x : α} {y0 y1 y2 y3 y4 y5 y6 y7 y8 y9 y10 y11 y12 y13 y14 y15 y16 y17 y18 y19 y20 y21 y22 y23 y24 y25 y26 y27 y28 y29 y30 y31 y32 y33 y34 y35 y36 y37 y38 y39 y40 y41 y42 y43 y44 : α} {l : List α} : x ∈ y0 :: y1 :: y2 :: y3 :: y4 :: y5 :: y6 :: y7 :: y8 :: y9 :: y10 :: y11 :: y12 :: y13 :: y14 :: y15 :: y16 :: y17 :: y18 :: y19 :: y20 :: y21 :: y22 :: y23 :: y24 :: y25 :: y26 :: y27 :: y28 :: y29 :: y30 :: y31 :: y32 :: y33 :: y34 :: y35 :: y36 :: y37 :: y38 :: y39 :: y40 :: y41 :: y42 :: y43 :: y44 :: x :: l := .tail _ m44
theorem m46 {α : Type} {x : α} {y0 y1 y2 y3 y4 y5 y6 y7 y8 y9 y10 y11 y12 y13 y14 y15 y16 y17 y18 y19 y20 y21 y22 y23 y24 y25 y26 y27 y28 y29 y30 y31 y32 y33 y34 y35 y36 y37 y38 y39 y40 y41 y42 y43 y44 y45 : α} {l : List α} : x ∈ y0 :: y1 :: y2 :: y3 :: y4 :: y5 :: y6 :: y7 :: y8 :: y9 :: y10 :: y11 :: y12 :: y13 :: y14 :: y15 :: y16 :: y17 :: y18 :: y19 :: y20 :: y21 :: y22 :: y23 :: y24 :: y25 :: y26 :: y27 :: y28 :: y29 :: y30 :: y31 :: y32 :: y33 :: y34 :: y35 :: y36 :: y37 :: y38 :: y39 :: y40 :: y41 :: y42 :: y43 :: y44 :: y45 :: x :: l := .tail _ m45
theorem m47 {α : Type} {x : α} {y0 y1 y2 y3 y4 y5 y6 y7 y8 y9 y10 y11 y12 y13 y14 y15 y16 y17 y18 y19 y20 y21 y22 y23 y24 y25 y26 y27 y28 y29 y30 y31 y32 y33 y34 y35 y36 y37 y38 y39 y40 y41 y42 y43 y44 y45 y46 : α} {l : List α} : x ∈ y0 :: y1 :: y2 :: y3 :: y4 :: y5 :: y6 :: y7 :: y8 :: y9 :: y10 :: y11 :: y12 :: y13 :: y14 :: y15 :: y16 :: y17 :: y18 :: y19 :: y20 :: y21 :: y22 :: y23 :: y24 :: y25 :: y26 :: y27 :: y28 :: y29 :: y30 :: y31 :: y32 :: y33 :: y34 :: y35 :: y36 :: y37 :: y38 :: y39 :: y40 :: y41 :: y42 :: y43 :: y44 :: y45 :: y46 :: x :: l := .tail _ m46
theorem m48 {α : Type} {x : α} {y0 y1 y2 y3 y4 y5 y6 y7 y8 y9 y10 y11 y12 y13 y14 y15 y16 y17 y18 y19 y20 y21 y22 y23 y24 y25 y26 y27 y28 y29 y30 y31 y32 y33 y34 y35 y36 y37 y38 y39 y40 y41 y42 y43 y44 y45 y46 y47 : α} {l : List α} : x ∈ y0 :: y1 :: y2 :: y3 :: y4 :: y5 :: y6 :: y7 :: y8 :: y9 :: y10 :: y11 :: y12 :: y13 :: y14 :: y15 :: y16 :: y17 :: y18 :: y19 :: y20 :: y21 :: y22 :: y23 :: y24 :: y25 :: y26 :: y27 :: y28 :: y29 :: y30 :: y31 :: y32 :: y33 :: y34 :: y35 :: y36 :: y37 :: y38 :: y39 :: y40 :: y41 :: y42 :: y43 :: y44 :: y45 :: y46 :: y47 :: x :: l := .tail _ m47
theorem m49 {α : Type} {x : α} {y0 y1 y2 y3 y4 y5 y6 y7 y8 y9 y10 y11 y12 y13 y14 y15 y16 y17 y18 y19 y20 y21 y22 y23 y24 y25 y26 y27 y28 y29 y30 y31 y32 y33 y34 y35 y36 y37 y38 y39 y40 y41 y42 y43 y44 y45 y46 y47 y48 : α} {l : List α} : x ∈ y0 :: y1 :: y2 :: y3 :: y4 :: y5 :: y6 :: y7 :: y8 :: y9 :: y10 :: y11 :: y12 :: y13 :: y14 :: y15 :: y16 :: y17 :: y18 :: y19 :: y20 :: y21 :: y22 :: y23 :: y24 :: y25 :: y26 :: y27 :: y28 :: y29 :: y30 :: y31 :: y32 :: y33 :: y34 :: y35 :: y36 :: y37 :: y38 :: y39 :: y40 :: y41 :: y42 :: y43 :: y44 :: y45 :: y46 :: y47 :: y48 :: x :: l := .tail _ m48
theorem m50 {α : Type} {x : α} {y0 y1 y2 y3 y4 y5 y6 y7 y8 y9 y10 y11 y12 y13 y14 y15 y16 y17 y18 y19 y20 y21 y22 y23 y24 y25 y26 y27 y28 y29 y30 y31 y32 y33 y34 y35 y36 y37 y38 y39 y40 y41 y42 y43 y44 y45 y46 y47 y48 y49 : α} {l : List α} : x ∈ y0 :: y1 :: y2 :: y3 :: y4 :: y5 :: y6 :: y7 :: y8 :: y9 :: y10 :: y11 :: y12 :: y13 :: y14 :: y15 :: y16 :: y17 :: y18 :: y19 :: y20 :: y21 :: y22 :: y23 :: y24 :: y25 :: y26 :: y27 :: y28 :: y29 :: y30 :: y31 :: y32 :: y33 :: y34 :: y35 :: y36 :: y37 :: y38 :: y39 :: y40 :: y41 :: y42 :: y43 :: y44 :: y45 :: y46 :: y47 :: y48 :: y49 :: x :: l := .tail _ m49
theorem m51 {α : Type} {x : α} {y0 y1 y2 y3 y4 y5 y6 y7 y8 y9 y10 y11 y12 y13 y14 y15 y16 y17 y18 y19 y20 y21 y22 y23 y24 y25 y26 y27 y28 y29 y30 y31 y32 y33 y34 y35 y36 y37 y38 y39 y40 y41 y42 y43 y44 y45 y46 y47 y48 y49 y50 : α} {l : List α} : x ∈ y0 :: y1 :: y2 :: y3 :: y4 :: y5 :: y6 :: y7 :: y8 :: y9 :: y10 :: y11 :: y12 :: y13 :: y14 :: y15 :: y16 :: y17 :: y18 :: y19 :: y20 :: y21 :: y22 :: y23 :: y24 :: y25 :: y26 :: y27 :: y28 :: y29 :: y30 :: y31 :: y32 :: y33 :: y34 :: y35 :: y36 :: y37 :: y38 :: y39 :: y40 :: y41 :: y42 :: y43 :: y44 :: y45 :: y46 :: y47 :: y48 :: y49 :: y50 :: x :: l := .tail _ m50
theorem m52 {α : Type} {x : α} {y0 y1 y2 y3 y4 y5 y6 y7 y8 y9 y10 y11 y12 y13 y14 y15 y16 y17 y18 y19 y20 y21 y22 y23 y24 y25 y26 y27 y28 y29 y30 y31 y32 y33 y34 y35 y36 y37 y38 y39 y40 y41 y42 y43 y44 y45 y46 y47 y48 y49 y50 y51 : α} {l : List α} : x ∈ y0 :: y1 :: y2 :: y3 :: y4 :: y5 :: y6 :: y7 :: y8 :: y9 :: y10 :: y11 :: y12 :: y13 :: y14 :: y15 :: y16 :: y17 :: y18 :: y19 :: y20 :: y21 :: y22 :: y23 :: y24 :: y25 :: y26 :: y27 :: y28 :: y29 :: y30 :: y31 :: y32 :: y33 :: y34 :: y35 :: y36 :: y37 :: y38 :: y39 :: y40 :: y41 :: y42 :: y43 :: y44 :: y45 :: y46 :: y47 :: y48 :: y49 :: y50 :: y51 :: x :: l := .tail _ m51
theorem m53 {α : Type} {x : α} {y0 y1 y2 y3 y4 y5 y6 y7 y8 y9 y10 y11 y12 y13 y14 y15 y16 y17 y18 y19 y20 y21 y22 y23 y24 y25 y26 y27 y28 y29 y30 y31 y32 y33 y34 y35 y36 y37 y38 y39 y40 y41 y42 y43 y44 y45 y46 y47 y48 y49 y50 y51 y52 : α} {l : List α} : x ∈ y0 :: y1 :: y2 :: y3 :: y4 :: y5 :: y6 :: y7 :: y8 :: y9 :: y10 :: y11 :: y12 :: y13 :: y14 :: y15 :: y16 :: y17 :: y18 :: y19 :: y20 :: y21 :: y22 :: y23 :: y24 :: y25 :: y26 :: y27 :: y28 :: y29 :: y30 :: y31 :: y32 :: y33 :: y34 :: y35 :: y36 :: y37 :: y38 :: y39 :: y40 :: y41 :: y42 :: y43 :: y44 :: y45 :: y46 :: y47 :: y48 :: y49 :: y50 :: y51 :: y52 :: x :: l := .tail _ m52
theorem m54 {α : Type} {x : α} {y0 y1 y2 y3 y4 y5 y6 y7 y8 y9 y10 y11 y12 y13 y14 y15 y16 y17 y18 y19 y20 y21 y22 y23 y24 y25 y26 y27 y28 y29 y30 y31 y32 y33 y34 y35 y36 y37 y38 y39 y40 y41 y42 y43 y44 y45 y46 y47 y48 y49 y50 y51 y52 y53 : α} {l : List α} : x ∈ y0 :: y1 :: y2 :: y3 :: y4 :: y5 :: y6 :: y7 :: y8 :: y9 :: y10 :: y11 :: y12 :: y13 :: y14 :: y15 :: y16 :: y17 :: y18 :: y19 :: y20 :: y21 :: y22 :: y23 :: y24 :: y25 :: y26 :: y27 :: y28 :: y29 :: y30 :: y31 :: y32 :: y33 :: y34 :: y35 :: y36 :: y37 :: y38 :: y39 :: y40 :: y41 :: y42 :: y43 :: y44 :: y45 :: y46 :: y47 :: y48 :: y49 :: y50 :: y51 :: y52 :: y53 :: x :: l := .tail _ m53
theorem m55 {α : Type} {x : α} {y0 y1 y2 y3 y4 y5 y6 y7 y8 y9 y10 y11 y12 y13 y14 y15 y16 y17 y18 y19 y20 y21 y22 y23 y24 y25 y26 y27 y28 y29 y30 y31 y32 y33 y34 y35 y36 y37 y38 y39 y40 y41 y42 y43 y44 y45 y46 y47 y48 y49 y50 y51 y52 y53 y54 : α} {l : List α} : x ∈ y0 :: y1 :: y2 :: y3 :: y4 :: y5 :: y6 :: y7 :: y8 :: y9 :: y10 :: y11 :: y12 :: y13 :: y14 :: y15 :: y16 :: y17 :: y18 :: y19 :: y20 :: y21 :: y22 :: y23 :: y24 :: y25 :: y26 :: y27 :: y28 :: y29 :: y30 :: y31 :: y32 :: y33 :: y34 :: y35 :: y36 :: y37 :: y38 :: y39 :: y40 :: y41 :: y42 :: y43 :: y44 :: y45 :: y46 :: y47 :: y48 :: y49 :: y50 :: y51 :: y52 :: y53 :: y54 :: x :: l := .tail _ m54
theorem m56 {α : Type} {x : α} {y0 y1 y2 y3 y4 y5 y6 y7 y8 y9 y10 y11 y12 y13 y14 y15 y16 y17 y18 y19 y20 y21 y22 y23 y24 y25 y26 y27 y28 y29 y30 y31 y32 y33 y34 y35 y36 y37 y38 y39 y40 y41 y42 y43 y44 y45 y46 y47 y48 y49 y50 y51 y52 y53 y54 y55 : α} {l : List α} : x ∈ y0 :: y1 :: y2 :: y3 :: y4 :: y5 :: y6 :: y7 :: y8 :: y9 :: y10 :: y11 :: y12 :: y13 :: y14 :: y15 :: y16 :: y17 :: y18 :: y19 :: y20 :: y21 :: y22 :: y23 :: y24 :: y25 :: y26 :: y27 :: y28 :: y29 :: y30 :: y31 :: y32 :: y33 :: y34 :: y35 :: y36 :: y37 :: y38 :: y39 :: y40 :: y41 :: y42 :: y43 :: y44 :: y45 :: y46 :: y47 :: y48 :: y49 :: y50 :: y51 :: y52 :: y53 :: y54 :: y55 :: x :: l := .tail _ m55
theorem m57 {α : Type} {x : α} {y0 y1 y2 y3 y4 y5 y6 y7 y8 y9 y10 y11 y12 y13 y14 y15 y16 y17 y18 y19 y20 y21 y22 y23 y24 y25 y26 y27 y28 y29 y30 y31 y32 y33 y34 y35 y36 y37 y38 y39 y40 y41 y42 y43 y44 y45 y46 y47 y48 y49 y50 y51 y52 y53 y54 y55 y56 : α} {l : List α} : x ∈ y0 :: y1 :: y2 :: y3 :: y4 :: y5 :: y6 :: y7 :: y8 :: y9 :: y10 :: y11 :: y12 :: y13 :: y14 :: y15 :: y16 :: y17 :: y18 :: y19 :: y20 :: y21 :: y22 :: y23 :: y24 :: y25 :: y26 :: y27 :: y28 :: y29 :: y30 :: y31 :: y32 :: y33 :: y34 :: y35 :: y36 :: y37 :: y38 :: y39 :: y40 :: y41 :: y42 :: y43 :: y44 :: y45 :: y46 :: y47 :: y48 :: y49 :: y50 :: y51 :: y52 :: y53 :: y54 :: y55 :: y56 :: x :: l := .tail _ m56
theorem m58 {α : Type} {x : α} {y0 y1 y2 y3 y4 y5 y6 y7 y8 y9 y10 y11 y12 y13 y14 y15 y16 y17 y18 y19 y20 y21 y22 y23 y24 y25 y26 y27 y28 y29 y30 y31 y32 y33 y34 y35 y36 y37 y38 y39 y40 y41 y42 y43 y44 y45 y46 y47 y48 y49 y50 y51 y52 y53 y54 y55 y56 y57 : α} {l : List α} : x ∈ y0 :: y1 :: y2 :: y3 :: y4 :: y5 :: y6 :: y7 :: y8 :: y9 :: y10 :: y11 :: y12 :: y13 :: y14 :: y15 :: y16 :: y17 :: y18 :: y19 :: y20 :: y21 :: y22 :: y23 :: y24 :: y25 :: y26 :: y27 :: y28 :: y29 :: y30 :: y31 :: y32 :: y33 :: y34 :: y35 :: y36 :: y37 :: y38 :: y39 :: y40 :: y41 :: y42 :: y43 :: y44 :: y45 :: y46 :: y47 :: y48 :: y49 :: y50 :: y51 :: y52 :: y53 :: y54 :: y55 :: y56 :: y57 :: x :: l := .tail _ m57
theorem m59 {α : Type} {x : α} {y0 y1 y2 y3 y4 y5 y6 y7 y8 y9 y10 y11 y12 y13 y14 y15 y16 y17 y18 y19 y20 y21 y22 y23 y24 y25 y26 y27 y28 y29 y30 y31 y32 y33 y34 y35 y36 y37 y38 y39 y40 y41 y42 y43 y44 y45 y46 y47 y48 y49 y50 y51 y52 y53 y54 y55 y56 y57 y58 : α} {l : List α} : x ∈ y0 :: y1 :: y2 :: y3 :: y4 :: y5 :: y6 :: y7 :: y8 :: y9 :: y10 :: y11 :: y12 :: y13 :: y14 :: y15 :: y16 :: y17 :: y18 :: y19 :: y20 :: y21 :: y22 :: y23 :: y24 :: y25 :: y26 :: y27 :: y28 :: y29 :: y30 :: y31 :: y32 :: y33 :: y34 :: y35 :: y36 :: y37 :: y38 :: y39 :: y40 :: y41 :: y42 :: y43 :: y44 :: y45 :: y46 :: y47 :: y48 :: y49 :: y50 :: y51 :: y52 :: y53 :: y54 :: y55 :: y56 :: y57 :: y58 :: x :: l := .tail _ m58
theorem m60 {α : Type} {x : α} {y0 y1 y2 y3 y4 y5 y6 y7 y8 y9 y10 y11 y12 y13 y14 y15 y16 y17 y18 y19 y20 y21 y22 y23 y24 y25 y26 y27 y28 y29 y30 y31 y32 y33 y34 y35 y36 y37 y38 y39 y40 y41 y42 y43 y44 y45 y46 y47 y48 y49 y50 y51 y52 y53 y54 y55 y56 y57 y58 y59 : α} {l : List α} : x ∈ y0 :: y1 :: y2 :: y3 :: y4 :: y5 :: y6 :: y7 :: y8 :: y9 :: y10 :: y11 :: y12 :: y13 :: y14 :: y15 :: y16 :: y17 :: y18 :: y19 :: y20 :: y21 :: y22 :: y23 :: y24 :: y25 :: y26 :: y27 :: y28 :: y29 :: y30 :: y31 :: y32 :: y33 :: y34 :: y35 :: y36 :: y37 :: y38 :: y39 :: y40 :: y41 :: y42 :: y43 :: y44 :: y45 :: y46 :: y47 :: y48 :: y49 :: y50 :: y51 :: y52 :: y53 :: y54 :: y55 :: y56 :: y57 :: y58 :: y59 :: x :: l := .tail _ m59
theorem m61 {α : Type} {x : α} {y0 y1 y2 y3 y4 y5 y6 y7 y8 y9 y10 y11 y12 y13 y14 y15 y16 y17 y18 y19 y20 y21 y22 y23 y24 y25 y26 y27 y28 y29 y30 y31 y32 y33 y34 y35 y36 y37 y38 y39 y40 y41 y42 y43 y44 y45 y46 y47 y48 y49 y50 y51 y52 y53 y54 y55 y56 y57 y58 y59 y60 : α} {l : List α} : x ∈ y0 :: y1 :: y2 :: y3 :: y4 :: y5 :: y6 :: y7 :: y8 :: y9 :: y10 :: y11 :: y12 :: y13 :: y14 :: y15 :: y16 :: y17 :: y18 :: y19 :: y20 :: y21 :: y22 :: y23 :: y24 :: y25 :: y26 :: y27 :: y28 :: y29 :: y30 :: y31 :: y32 :: y33 :: y34 :: y35 :: y36 :: y37 :: y38 :: y39 :: y40 :: y41 :: y42 :: y43 :: y44 :: y45 :: y46 :: y47 :: y48 :: y49 :: y50 :: y51 :: y52 :: y53 :: y54 :: y55 :: y56 :: y57 :: y58 :: y59 :: y60 :: x :: l := .tail _ m60
theorem m62 {α : Type} {x : α} {y0 y1 y2 y3 y4 y5 y6 y7 y8 y9 y10 y11 y12 y13 y14 y15 y16 y17 y18 y19 y20 y21 y22 y23 y24 y25 y26 y27 y28 y29 y30 y31 y32 y33 y34 y35 y36 y37 y38 y39 y40 y41 y42 y43 y44 y45 y46 y47 y48 y49 y50 y51 y52 y53 y54 y55 y56 y57 y58 y59 y60 y61 : α} {l : List α} : x ∈ y0 :: y1 :: y2 :: y3 :: y4 :: y5 :: y6 :: y7 :: y8 :: y9 :: y10 :: y11 :: y12 :: y13 :: y14 :: y15 :: y16 :: y17 :: y18 :: y19 :: y20 :: y21 :: y22 :: y23 :: y24 :: y25 :: y26 :: y27 :: y28 :: y29 :: y30 :: y31 :: y32 :: y33 :: y34 :: y35 :: y36 :: y37 :: y38 :: y39 :: y40 :: y41 :: y42 :: y43 :: y44 :: y45 :: y46 :: y47 :: y48 :: y49 :: y50 :: y51 :: y52 :: y53 :: y54 :: y55 :: y56 :: y57 :: y58 :: y59 :: y60 :: y61 :: x :: l := .tail _ m61
theorem m63 {α : Type} {x : α} {y0 y1 y2 y3 y4 y5 y6 y7 y8 y9 y10 y11 y12 y13 y14 y15 y16 y17 y18 y19 y20 y21 y22 y23 y24 y25 y26 y27 y28 y29 y30 y31 y32 y33 y34 y35 y36 y37 y38 y39 y40 y41 y42 y43 y44 y45 y46 y47 y48 y49 y50 y51 y52 y53 y54 y55 y56 y57 y58 y59 y60 y61 y62 : α} {l : List α} : x ∈ y0 :: y1 :: y2 :: y3 :: y4 :: y5 :: y6 :: y7 :: y8 :: y9 :: y10 :: y11 :: y12 :: y13 :: y14 :: y15 :: y16 :: y17 :: y18 :: y19 :: y20 :: y21 :: y22 :: y23 :: y24 :: y25 :: y26 :: y27 :: y28 :: y29 :: y30 :: y31 :: y32 :: y33 :: y34 :: y35 :: y36 :: y37 :: y38 :: y39 :: y40 :: y41 :: y42 :: y43 :: y44 :: y45 :: y46 :: y47 :: y48 :: y49 :: y50 :: y51 :: y52 :: y53 :: y54 :: y55 :: y56 :: y57 :: y58 :: y59 :: y60 :: y61 :: y62 :: x :: l := .tail _ m62
theorem p1 {x y0 : HProp} {L : List HProp} : (y0 :: x :: L).Perm (x :: y0 :: L) := List.perm_middle (l₁ := [y0])
theorem p2 {x y0 y1 : HProp} {L : List HProp} : (y0 :: y1 :: x :: L).Perm (x :: y0 :: y1 :: L) := List.perm_middle (l₁ := [y0, y1])
theorem p3 {x y0 y1 y2 : HProp} {L : List HProp} : (y0 :: y1 :: y2 :: x :: L).Perm (x :: y0 :: y1 :: y2 :: L) := List.perm_middle (l₁ := [y0, y1, y2])
theorem p4 {x y0 y1 y2 y3 : HProp} {L : List HProp} : (y0 :: y1 :: y2 :: y3 :: x :: L).Perm (x :: y0 :: y1 :: y2 :: y3 :: L) := List.perm_middle (l₁ := [y0, y1, y2, y3])
theorem p5 {x y0 y1 y2 y3 y4 : HProp} {L : List HProp} : (y0 :: y1 :: y2 :: y3 :: y4 :: x :: L).Perm (x :: y0 :: y1 :: y2 :: y3 :: y4 :: L) := List.perm_middle (l₁ := [y0, y1, y2, y3, y4])
theorem p6 {x y0 y1 y2 y3 y4 y5 : HProp} {L : List HProp} : (y0 :: y1 :: y2 :: y3 :: y4 :: y5 :: x :: L).Perm (x :: y0 :: y1 :: y2 :: y3 :: y4 :: y5 :: L) := List.perm_middle (l₁ := [y0, y1, y2, y3, y4, y5])
theorem p7 {x y0 y1 y2 y3 y4 y5 y6 : HProp} {L : List HProp} : (y0 :: y1 :: y2 :: y3 :: y4 :: y5 :: y6 :: x :: L).Perm (x :: y0 :: y1 :: y2 :: y3 :: y4 :: y5 :: y6 :: L) := List.perm_middle (l₁ := [y0, y1, y2, y3, y4, y5, y6])
theorem p8 {x y0 y1 y2 y3 y4 y5 y6 y7 : HProp} {L : List HProp} : (y0 :: y1 :: y2 :: y3 :: y4 :: y5 :: y6 :: y7 :: x :: L).Perm (x :: y0 :: y1 :: y2 :: y3 :: y4 :: y5 :: y6 :: y7 :: L) := List.perm_middle (l₁ := [y0, y1, y2, y3, y4, y5, y6, y7])
theorem p9 {x y0 y1 y2 y3 y4 y5 y6 y7 y8 : HProp} {L : List HProp} : (y0 :: y1 :: y2 :: y3 :: y4 :: y5 :: y6 :: y7 :: y8 :: x :: L).Perm (x :: y0 :: y1 :: y2 :: y3 :: y4 :: y5 :: y6 :: y7 :: y8 :: L) := List.perm_middle (l₁ := [y0, y1, y2, y3, y4, y5, y6, y7, y8])
theorem p10 {x y0 y1 y2 y3 y4 y5 y6 y7 y8 y9 : HProp} {L : List HProp} : (y0 :: y1 :: y2 :: y3 :: y4 :: y5 :: y6 :: y7 :: y8 :: y9 :: x :: L).Perm (x :: y0 :: y1 :: y2 :: y3 :: y4 :: y5 :: y6 :: y7 :: y8 :: y9 :: L) := List.perm_middle (l₁ := [y0, y1, y2, y3, y4, y5, y6, y7, y8, y9])
theorem p11 {x y0 y1 y2 y3 y4 y5 y6 y7 y8 y9 y10 : HProp} {L : List HProp} : (y0 :: y1 :: y2 :: y3 :: y4 :: y5 :: y6 :: y7 :: y8 :: y9 :: y10 :: x :: L).Perm (x :: y0 :: y1 :: y2 :: y3 :: y4 :: y5 :: y6 :: y7 :: y8 :: y9 :: y10 :: L) := List.perm_middle (l₁ := [y0, y1, y2, y3, y4, y5, y6, y7, y8, y9, y10])
theorem p12 {x y0 y1 y2 y3 y4 y5 y6 y7 y8 y9 y10 y11 : HProp} {L : List HProp} : (y0 :: y1 :: y2 :: y3 :: y4 :: y5 :: y6 :: y7 :: y8 :: y9 :: y10 :: y11 :: x :: L).Perm (x :: y0 :: y1 :: y2 :: y3 :: y4 :: y5 :: y6 :: y7 :: y8 :: y9 :: y10 :: y11 :: L) := List.perm_middle (l₁ := [y0, y1, y2, y3, y4, y5, y6, y7, y8, y9, y10, y11])
theorem p13 {x y0 y1 y2 y3 y4 y5 y6 y7 y8 y9 y10 y11 y12 : HProp} {L : List HProp} : (y0 :: y1 :: y2 :: y3 :: y4 :: y5 :: y6 :: y7 :: y8 :: y9 :: y10 :: y11 :: y12 :: x :: L).Perm (x :: y0 :: y1 :: y2 :: y3 :: y4 :: y5 :: y6 :: y7 :: y8 :: y9 :: y10 :: y11 :: y12 :: L) := List.perm_middle (l₁ := [y0, y1, y2, y3, y4, y5, y6, y7, y8, y9, y10, y11, y12])
theorem p14 {x y0 y1 y2 y3 y4 y5 y6 y7 y8 y9 y10 y11 y12 y13 : HProp} {L : List HProp} : (y0 :: y1 :: y2 :: y3 :: y4 :: y5 :: y6 :: y7 :: y8 :: y9 :: y10 :: y11 :: y12 :: y13 :: x :: L).Perm (x :: y0 :: y1 :: y2 :: y3 :: y4 :: y5 :: y6 :: y7 :: y8 :: y9 :: y10 :: y11 :: y12 :: y13 :: L) := List.perm_middle (l₁ := [y0, y1, y2, y3, y4, y5, y6, y7, y8, y9, y10, y11, y12, y13])
theorem p15 {x y0 y1 y2 y3 y4 y5 y6 y7 y8 y9 y10 y11 y12 y13 y14 : HProp} {L : List HProp} : (y0 :: y1 :: y2 :: y3 :: y4 :: y5 :: y6 :: y7 :: y8 :: y9 :: y10 :: y11 :: y12 :: y13 :: y14 :: x :: L).Perm (x :: y0 :: y1 :: y2 :: y3 :: y4 :: y5 :: y6 :: y7 :: y8 :: y9 :: y10 :: y11 :: y12 :: y13 :: y14 :: L) := List.perm_middle (l₁ := [y0, y1, y2, y3, y4, y5, y6, y7, y8, y9, y10, y11, y12, y13, y14])
theorem a0 {A A' : HProp} {L : List HProp} : At A A' (A :: L) (A' :: L) := .here
theorem a1 {A A' y0 : HProp} {L : List HProp} : At A A' (y0 :: A :: L) (y0 :: A' :: L) := .there a0
theorem a2 {A A' y0 y1 : HProp} {L : List HProp} : At A A' (y0 :: y1 :: A :: L) (y0 :: y1 :: A' :: L) := .there a1
theorem a3 {A A' y0 y1 y2 : HProp} {L : List HProp} : At A A' (y0 :: y1 :: y2 :: A :: L) (y0 :: y1 :: y2 :: A' :: L) := .there a2
theorem a4 {A A' y0 y1 y2 y3 : HProp} {L : List HProp} : At A A' (y0 :: y1 :: y2 :: y3 :: A :: L) (y0 :: y1 :: y2 :: y3 :: A' :: L) := .there a3
theorem a5 {A A' y0 y1 y2 y3 y4 : HProp} {L : List HProp} : At A A' (y0 :: y1 :: y2 :: y3 :: y4 :: A :: L) (y0 :: y1 :: y2 :: y3 :: y4 :: A' :: L) := .there a4
theorem a6 {A A' y0 y1 y2 y3 y4 y5 : HProp} {L : List HProp} : At A A' (y0 :: y1 :: y2 :: y3 :: y4 :: y5 :: A :: L) (y0 :: y1 :: y2 :: y3 :: y4 :: y5 :: A' :: L) := .there a5
theorem a7 {A A' y0 y1 y2 y3 y4 y5 y6 : HProp} {L : List HProp} : At A A' (y0 :: y1 :: y2 :: y3 :: y4 :: y5 :: y6 :: A :: L) (y0 :: y1 :: y2 :: y3 :: y4 :: y5 :: y6 :: A' :: L) := .there a6
theorem a8 {A A' y0 y1 y2 y3 y4 y5 y6 y7 : HProp} {L : List HProp} : At A A' (y0 :: y1 :: y2 :: y3 :: y4 :: y5 :: y6 :: y7 :: A :: L) (y0 :: y1 :: y2 :: y3 :: y4 :: y5 :: y6 :: y7 :: A' :: L) := .there a7
theorem a9 {A A' y0 y1 y2 y3 y4 y5 y6 y7 y8 : HProp} {L : List HProp} : At A A' (y0 :: y1 :: y2 :: y3 :: y4 :: y5 :: y6 :: y7 :: y8 :: A :: L) (y0 :: y1 :: y2 :: y3 :: y4 :: y5 :: y6 :: y7 :: y8 :: A' :: L) := .there a8
theorem a10 {A A' y0 y1 y2 y3 y4 y5 y6 y7 y8 y9 : HProp} {L : List HProp} : At A A' (y0 :: y1 :: y2 :: y3 :: y4 :: y5 :: y6 :: y7 :: y8 :: y9 :: A :: L) (y0 :: y1 :: y2 :: y3 :: y4 :: y5 :: y6 :: y7 :: y8 :: y9 :: A' :: L) := .there a9
theorem a11 {A A' y0 y1 y2 y3 y4 y5 y6 y7 y8 y9 y10 : HProp} {L : List HProp} : At A A' (y0 :: y1 :: y2 :: y3 :: y4 :: y5 :: y6 :: y7 :: y8 :: y9 :: y10 :: A :: L) (y0 :: y1 :: y2 :: y3 :: y4 :: y5 :: y6 :: y7 :: y8 :: y9 :: y10 :: A' :: L) := .there a10
theorem a12 {A A' y0 y1 y2 y3 y4 y5 y6 y7 y8 y9 y10 y11 : HProp} {L : List HProp} : At A A' (y0 :: y1 :: y2 :: y3 :: y4 :: y5 :: y6 :: y7 :: y8 :: y9 :: y10 :: y11 :: A :: L) (y0 :: y1 :: y2 :: y3 :: y4 :: y5 :: y6 :: y7 :: y8 :: y9 :: y10 :: y11 :: A' :: L) := .there a11
theorem a13 {A A' y0 y1 y2 y3 y4 y5 y6 y7 y8 y9 y10 y11 y12 : HProp} {L : List HProp} : At A A' (y0 :: y1 :: y2 :: y3 :: y4 :: y5 :: y6 :: y7 :: y8 :: y9 :: y10 :: y11 :: y12 :: A :: L) (y0 :: y1 :: y2 :: y3 :: y4 :: y5 :: y6 :: y7 :: y8 :: y9 :: y10 :: y11 :: y12 :: A' :: L) := .there a12
theorem a14 {A A' y0 y1 y2 y3 y4 y5 y6 y7 y8 y9 y10 y11 y12 y13 : HProp} {L : List HProp} : At A A' (y0 :: y1 :: y2 :: y3 :: y4 :: y5 :: y6 :: y7 :: y8 :: y9 :: y10 :: y11 :: y12 :: y13 :: A :: L) (y0 :: y1 :: y2 :: y3 :: y4 :: y5 :: y6 :: y7 :: y8 :: y9 :: y10 :: y11 :: y12 :: y13 :: A' :: L) := .there a13
theorem a15 {A A' y0 y1 y2 y3 y4 y5 y6 y7 y8 y9 y10 y11 y12 y13 y14 : HProp} {L : List HProp} : At A A' (y0 :: y1 :: y2 :: y3 :: y4 :: y5 :: y6 :: y7 :: y8 :: y9 :: y10 :: y11 :: y12 :: y13 :: y14 :: A :: L) (y0 :: y1 :: y2 :: y3 :: y4 :: y5 :: y6 :: y7 :: y8 :: y9 :: y10 :: y11 :: y12 :: y13 :: y14 :: A' :: L) := .there a14

inductive OV (ρ : Env) : Operand → Value → Prop
  | t {t v} (h : (t, v) ∈ ρ) : OV ρ (.tmp t) v
  | c {v} : OV ρ (.const v) v
  | g {g} : OV ρ (.global g) (.pointer (some ⟨g, 0, none⟩))
  | f {f} : OV ρ (.func f) (.func (.func f) #[] #[])
theorem OV.eval {ρ : Env} {n : Nat} {a : Act} {x : Operand} {v : Value} (h : OV ρ x v) (ha : Ok ρ n a) : a.eval x = v := by
  cases h with
  | t h => exact ha.vals _ _ h
  | c => rfl
  | g => rfl
  | f => rfl
inductive OVs (ρ : Env) : List Operand → List Value → Prop
  | nil : OVs ρ [] []
  | cons {x v xs vs} (h : OV ρ x v) (hs : OVs ρ xs vs) : OVs ρ (x :: xs) (v :: vs)
theorem OVs.map {ρ : Env} {n : Nat} {a : Act} {xs : List Operand} {vs : List Value} (h : OVs ρ xs vs) (ha : Ok ρ n a) : xs.map a.eval = vs := by
  induction h with
  | nil => rfl
  | cons h _ ih => rw [List.map_cons, h.eval ha, ih]

section
variable (P : Program)
/-- The operation yields v, and the world is as it was. -/
def Run (G : World) (ρ : Env) (n : Nat) (L : List HProp) (o : Oper) (v : Value) : Prop := ∀ w a, Sat G w L → Ok ρ n a → (execOp a.eval o).run P w = .ok (.value v) w
/-- The operation yields no value, and leaves a world that L' tells. -/
def RunS (G : World) (ρ : Env) (n : Nat) (L : List HProp) (o : Oper) (L' : List HProp) : Prop := ∀ w a, Sat G w L → Ok ρ n a → ∃ w', (execOp a.eval o).run P w = .ok .skip w' ∧ Sat G w' L'
/-- The operation yields a value, and leaves a world, as K tells. -/
def RunW (G : World) (ρ : Env) (n : Nat) (L : List HProp) (o : Oper) (K : Value → World → Prop) : Prop := ∀ w a, Sat G w L → Ok ρ n a → ∃ v w', (execOp a.eval o).run P w = .ok (.value v) w' ∧ K v w'
/-- The operation calls. -/
def RunC (G : World) (ρ : Env) (n : Nat) (L : List HProp) (o : Oper) (f : FuncId) (args : Array Value) : Prop := ∀ w a, Sat G w L → Ok ρ n a → (execOp a.eval o).run P w = .ok (.enter f args) w

def TL (Q : Exit → Act → World → Prop) (ops : Array Oper) (l : List Oper) (ρ : Env) (n : Nat) (G : World) (L : List HProp) : Prop := ∀ w a, Sat G w L → Ok ρ n a → wpList P ops Q l a w
/-- In the world w. -/
def TW (Q : Exit → Act → World → Prop) (ops : Array Oper) (l : List Oper) (ρ : Env) (n : Nat) (w : World) : Prop := ∀ a, Ok ρ n a → wpList P ops Q l a w
/-- The head of a region that draws its order; 'tl' what stands behind the head. -/
def TS (Q : Exit → Act → World → Prop) (ops : Array Oper) (tl : List Oper) (l : List Oper) (ρ : Env) (n : Nat) (G : World) (L : List HProp) : Prop :=
  ∀ w a, Sat G w L → Ok ρ n a → wpStill P ops w (fun a' => wpList P ops Q tl a' w) l a
def CT (c : Code) (Q : Exit → Act → World → Prop) (ρ : Env) (n : Nat) (G : World) (L : List HProp) : Prop := ∀ w a, Sat G w L → Ok ρ n a → c.wp P Q a w
end
def EX (Q : Exit → Act → World → Prop) (e : Exit) (ρ : Env) (n : Nat) (G : World) (L : List HProp) : Prop := ∀ w a, Sat G w L → Ok ρ n a → Q e a w

section
variable {P : Program} {G : World} {ρ ρ' : Env} {n : Nat} {L L' : List HProp} {Q : Exit → Act → World → Prop} {ops : Array Oper} {rest : List Oper}
  {d : Nat} {op : Op} {ty : TypeId} {pos : String} {af : Array Edge} {v : Value}

theorem TL.val (hr : Run P G ρ n L ⟨some d, op, ty, pos, af, none⟩ v) (k : TL P Q ops rest ((d, v) :: ρ) n G L) (hc : chk d n ρ = true := by rfl) :
    TL P Q ops (⟨some d, op, ty, pos, af, none⟩ :: rest) ρ n G L := by
  intro w a hS ha
  refine wpList_plain rfl fun K hK => ?_
  unfold Oper.wp
  rw [hr w a hS ha, Oper.upon_value]
  exact hK _ _ (k w _ hS (ha.put hc))
theorem wanted_of {j g : Nat} {b want : Bool} {a : Act} (hj : (ops[j]?).bind (·.dst) = some g) (hb : (g, .bool b) ∈ ρ) (ha : Ok ρ n a) :
    Region.wanted ⟨some d, op, ty, pos, af, some (j, want)⟩ (yielded ops a.tmps) = (b == want) := by
  have hv := ha.vals _ _ hb
  have h1 : a.tmps[g]? = some (.bool b) := by
    rw [Array.getD_eq_getD_getElem?] at hv
    cases e : a.tmps[g]? with
    | none => rw [e] at hv; cases hv
    | some x => rw [e] at hv; exact congrArg some hv
  simp only [Region.wanted, yielded, hj, Option.bind_some, h1]
  cases b <;> cases want <;> rfl
/-- A guarded operation that is carried out. -/
theorem TL.gv {j g : Nat} {b : Bool} (hb : (g, .bool b) ∈ ρ) (hr : Run P G ρ n L ⟨some d, op, ty, pos, af, some (j, b)⟩ v) (k : TL P Q ops rest ((d, v) :: ρ) n G L) (hj : (ops[j]?).bind (·.dst) = some g := by rfl) (hc : chk d n ρ = true := by rfl) :
    TL P Q ops (⟨some d, op, ty, pos, af, some (j, b)⟩ :: rest) ρ n G L := by
  intro w a hS ha
  refine wpList_step fun K hK => ?_
  rw [wanted_of hj hb ha, beq_self_eq_true, if_pos rfl]
  unfold Oper.wp
  rw [hr w a hS ha, Oper.upon_value]
  exact hK _ _ (k w _ hS (ha.put hc))
/-- A guarded operation that is passed. -/
theorem TL.gn {j g : Nat} {b want : Bool} (hb : (g, .bool b) ∈ ρ) (k : TL P Q ops rest ρ n G L) (hw : (b == want) = false := by rfl) (hj : (ops[j]?).bind (·.dst) = some g := by rfl) (hc : ρ.all (fun x => !(Nat.beq x.1 d)) = true := by rfl) :
    TL P Q ops (⟨some d, op, ty, pos, af, some (j, want)⟩ :: rest) ρ n G L := by
  intro w a hS ha
  refine wpList_step fun K hK => ?_
  rw [wanted_of hj hb ha, hw, if_neg (by simp)]
  exact hK _ _ (k w _ hS (ha.forget hc))
theorem TL.s (hr : RunS P G ρ n L ⟨none, op, ty, pos, af, none⟩ L') (k : TL P Q ops rest ρ n G L') : TL P Q ops (⟨none, op, ty, pos, af, none⟩ :: rest) ρ n G L := by
  intro w a hS ha
  refine wpList_plain rfl fun K hK => ?_
  unfold Oper.wp
  obtain ⟨w', e, hS'⟩ := hr w a hS ha
  rw [e, Oper.upon_skip]
  exact hK _ _ (k w' _ hS' ha)
theorem TL.w {K : Value → World → Prop} (hr : RunW P G ρ n L ⟨some d, op, ty, pos, af, none⟩ K) (k : ∀ v w, K v w → TW P Q ops rest ((d, v) :: ρ) n w) (hc : chk d n ρ = true := by rfl) :
    TL P Q ops (⟨some d, op, ty, pos, af, none⟩ :: rest) ρ n G L := by
  intro w a hS ha
  refine wpList_plain rfl fun K hK => ?_
  unfold Oper.wp
  obtain ⟨v, w', e, hk⟩ := hr w a hS ha
  rw [e, Oper.upon_value]
  exact hK _ _ (k v w' hk _ (ha.put hc))
theorem TW.at {w : World} (hS : Sat G w L) (k : TL P Q ops rest ρ n G L) : TW P Q ops rest ρ n w := fun a ha => k w a hS ha

def Ret (R : Value → World → Prop) : Ending → World → Prop
  | .returned v, w => R v w
  | _, _ => False
def CallsR (P : Program) (f : FuncId) (args : Array Value) (w : World) (R : Value → World → Prop) : Prop := Calls P f args w (Ret R)
theorem CallsR.mono {f : FuncId} {args : Array Value} {w : World} {R R' : Value → World → Prop} (h : CallsR P f args w R) (e : ∀ v w', R v w' → R' v w') : CallsR P f args w R' :=
  Calls.mono h fun x w' hx => by cases x <;> first | exact e _ _ hx | exact hx

/-- A call. 'd': its result's temporary. -/
theorem TL.call {f : FuncId} {args : Array Value} {R : Value → World → Prop} (hr : RunC P G ρ n L ⟨some d, op, ty, pos, af, none⟩ f args)
    (hc : ∀ w, Sat G w L → CallsR P f args w R) (k : ∀ v w, R v w → TW P Q ops rest ((d, v) :: ρ) n w) (hk : chk d n ρ = true := by rfl) :
    TL P Q ops (⟨some d, op, ty, pos, af, none⟩ :: rest) ρ n G L := by
  intro w a hS ha
  refine wpList_plain rfl fun K hK => ?_
  unfold Oper.wp
  rw [hr w a hS ha, Oper.upon_enter]
  refine Calls.mono (hc w hS) fun e w' he => ?_
  cases e with
  | returned v => exact hK _ _ (k v w' he _ (ha.put hk))
  | panicked _ => exact he.elim
  | outgrown => exact he.elim
/-- A guarded call that is carried out. -/
theorem TL.gcall {j g : Nat} {b : Bool} {f : FuncId} {args : Array Value} {R : Value → World → Prop} (hb : (g, .bool b) ∈ ρ) (hr : RunC P G ρ n L ⟨some d, op, ty, pos, af, some (j, b)⟩ f args)
    (hc : ∀ w, Sat G w L → CallsR P f args w R) (k : ∀ v w, R v w → TW P Q ops rest ((d, v) :: ρ) n w) (hj : (ops[j]?).bind (·.dst) = some g := by rfl) (hk : chk d n ρ = true := by rfl) :
    TL P Q ops (⟨some d, op, ty, pos, af, some (j, b)⟩ :: rest) ρ n G L := by
  intro w a hS ha
  refine wpList_step fun K hK => ?_
  rw [wanted_of hj hb ha, beq_self_eq_true, if_pos rfl]
  unfold Oper.wp
  rw [hr w a hS ha, Oper.upon_enter]
  refine Calls.mono (hc w hS) fun e w' he => ?_
  cases e with
  | returned v => exact hK _ _ (k v w' he _ (ha.put hk))
  | panicked _ => exact he.elim
  | outgrown => exact he.elim
theorem TL.perm (p : L.Perm L') (k : TL P Q ops rest ρ n G L') : TL P Q ops rest ρ n G L := fun w a hS ha => k w a (hS.perm p) ha
theorem TL.sub (s : Sub ρ' ρ) (k : TL P Q ops rest ρ' n G L) : TL P Q ops rest ρ n G L := fun w a hS ha => k w a hS (ha.sub s)
theorem TL.rm {d : Nat} (s : Rm d ρ ρ') (k : TL P Q ops rest ρ' n G L) : TL P Q ops rest ρ n G L := TL.sub s.sub k
theorem TL.nil (k : EX Q .normal ρ n G L) : TL P Q ops [] ρ n G L := fun w a hS ha => k w a hS ha
theorem TW.nil {w : World} (k : ∀ a, Ok ρ n a → Q .normal a w) : TW P Q ops [] ρ n w := fun a ha => k a ha

theorem TS.val {tl : List Oper} (hr : Run P G ρ n L ⟨some d, op, ty, pos, af, none⟩ v) (k : TS P Q ops tl rest ((d, v) :: ρ) n G L) (hc : chk d n ρ = true := by rfl) :
    TS P Q ops tl (⟨some d, op, ty, pos, af, none⟩ :: rest) ρ n G L := by
  intro w a hS ha
  refine wpStill_step fun K hK => ?_
  simp only [Region.wanted, if_true]
  unfold Oper.still
  rw [hr w a hS ha, Oper.stillUpon_value]
  exact hK _ (k w _ hS (ha.put hc))
theorem TS.gv {tl : List Oper} {j g : Nat} {b : Bool} (hb : (g, .bool b) ∈ ρ) (hr : Run P G ρ n L ⟨some d, op, ty, pos, af, some (j, b)⟩ v) (k : TS P Q ops tl rest ((d, v) :: ρ) n G L) (hj : (ops[j]?).bind (·.dst) = some g := by rfl) (hc : chk d n ρ = true := by rfl) :
    TS P Q ops tl (⟨some d, op, ty, pos, af, some (j, b)⟩ :: rest) ρ n G L := by
  intro w a hS ha
  refine wpStill_step fun K hK => ?_
  rw [wanted_of hj hb ha, beq_self_eq_true, if_pos rfl]
  unfold Oper.still
  rw [hr w a hS ha, Oper.stillUpon_value]
  exact hK _ (k w _ hS (ha.put hc))
theorem TS.gn {tl : List Oper} {j g : Nat} {b want : Bool} (hb : (g, .bool b) ∈ ρ) (k : TS P Q ops tl rest ρ n G L) (hw : (b == want) = false := by rfl) (hj : (ops[j]?).bind (·.dst) = some g := by rfl) (hc : ρ.all (fun x => !(Nat.beq x.1 d)) = true := by rfl) :
    TS P Q ops tl (⟨some d, op, ty, pos, af, some (j, want)⟩ :: rest) ρ n G L := by
  intro w a hS ha
  refine wpStill_step fun K hK => ?_
  rw [wanted_of hj hb ha, hw, if_neg (by simp)]
  exact hK _ (k w _ hS (ha.forget hc))
theorem TS.nil {tl : List Oper} (k : TL P Q ops tl ρ n G L) : TS P Q ops tl [] ρ n G L := fun w a hS ha => k w a hS ha

/-! Code. -/
theorem CT.region {id : Nat} {l : List Oper} (k : TL P Q l.toArray l ρ n G L) : CT P (.region id l.toArray false) Q ρ n G L :=
  fun w a hS ha => wp_region_lit (k w a hS ha)
/-- A region that draws its order: the first m operations only read; the rest stands in one order. -/
theorem CT.draw {id : Nat} {l : List Oper} (m : Nat) (hm : P.follows .mixedOrders = true) (hB : Region.lexTailB .any l.toArray m = true)
    (k : TS P Q l.toArray (l.drop m) (l.take m) ρ n G L) : CT P (.region id l.toArray true) Q ρ n G L :=
  fun w a hS ha => wp_region_still_tail m hm hB (k _ a (hS.drew _) ha)
/-- A region that draws its order and only reads. -/
theorem CT.still {id : Nat} {l : List Oper} (hm : P.follows .mixedOrders = true) (hB : Region.lexB .any l.toArray = true)
    (k : TS P Q l.toArray [] l ρ n G L) : CT P (.region id l.toArray true) Q ρ n G L :=
  fun w a hS ha => wp_region_still_lit hm hB (k _ a (hS.drew _) ha)
theorem CT.seq {x y : Code} (k : CT P x (Exit.then (y.wp P Q) Q) ρ n G L) : CT P (.seq x y) Q ρ n G L := fun w a hS ha => wp_seq (k w a hS ha)
theorem CT.skip (k : EX Q .normal ρ n G L) : CT P .skip Q ρ n G L := fun w a hS ha => wp_skip (k w a hS ha)
theorem CT.label {l : Nat} (k : EX Q .normal ρ n G L) : CT P (.label l) Q ρ n G L := fun w a hS ha => wp_label (k w a hS ha)
theorem CT.exit {id : Nat} (k : EX Q (.exit id) ρ n G L) : CT P (.exit id) Q ρ n G L := fun w a hS ha => wp_exit (k w a hS ha)
theorem CT.goto {l : Nat} (k : EX Q (.goto l) ρ n G L) : CT P (.goto l) Q ρ n G L := fun w a hS ha => wp_goto (k w a hS ha)
theorem CT.ret (k : EX Q .ret ρ n G L) : CT P .ret Q ρ n G L := fun w a hS ha => wp_ret (k w a hS ha)
theorem CT.block {id : Nat} {c : Code} (k : CT P c (Exit.inBlock id Q) ρ n G L) : CT P (.block id c) Q ρ n G L := fun w a hS ha => wp_block (k w a hS ha)
theorem CT.iff {t : Nat} {b : Bool} {x y : Code} (hm : (t, .bool b) ∈ ρ) (k1 : b = true → CT P x Q ρ n G L) (k2 : b = false → CT P y Q ρ n G L) : CT P (.cond (.tmp t) x y) Q ρ n G L :=
  fun w a hS ha => wp_cond_split (ha.vals _ _ hm) (fun e => k1 e w a hS ha) (fun e => k2 e w a hS ha)
theorem CT.ifd {t : Nat} {p : Prop} [Decidable p] {x y : Code} (hm : (t, .bool (decide p)) ∈ ρ) (k1 : p → CT P x Q ρ n G L) (k2 : ¬ p → CT P y Q ρ n G L) : CT P (.cond (.tmp t) x y) Q ρ n G L :=
  CT.iff hm (fun e => k1 (of_decide_eq_true e)) (fun e => k2 (of_decide_eq_false e))
theorem CT.ift {t : Nat} {x y : Code} (hm : (t, .bool true) ∈ ρ) (k1 : CT P x Q ρ n G L) : CT P (.cond (.tmp t) x y) Q ρ n G L :=
  CT.iff hm (fun _ => k1) (fun e => by cases e)
theorem CT.iff_ {t : Nat} {x y : Code} (hm : (t, .bool false) ∈ ρ) (k1 : CT P y Q ρ n G L) : CT P (.cond (.tmp t) x y) Q ρ n G L :=
  CT.iff hm (fun e => by cases e) (fun _ => k1)
theorem CT.perm {c : Code} (p : L.Perm L') (k : CT P c Q ρ n G L') : CT P c Q ρ n G L := fun w a hS ha => k w a (hS.perm p) ha
theorem CT.sub {c : Code} (s : Sub ρ' ρ) (k : CT P c Q ρ' n G L) : CT P c Q ρ n G L := fun w a hS ha => k w a hS (ha.sub s)
theorem CT.ex {α : Type} {A : α → HProp} {c : Code} (k : ∀ x, CT P c Q ρ n G (A x :: L)) : CT P c Q ρ n G (hex A :: L) := fun w a hS ha => let ⟨x, hx⟩ := hS.ex; k x w a hx ha

/-! Where an exit leads. -/
theorem EX.seq {y : Code} (k : CT P y Q ρ n G L) : EX (Exit.then (y.wp P Q) Q) .normal ρ n G L := fun w a hS ha => k w a hS ha
theorem EX.then_ {e : Exit} {K : Act → World → Prop} (he : e ≠ .normal) (k : EX Q e ρ n G L) : EX (Exit.then K Q) e ρ n G L := fun w a hS ha => by
  have := k w a hS ha
  cases e <;> first | exact this | exact absurd rfl he
theorem EX.then_ret {K : Act → World → Prop} (k : EX Q .ret ρ n G L) : EX (Exit.then K Q) .ret ρ n G L := fun w a hS ha => k w a hS ha
theorem EX.then_exit {i : Nat} {K : Act → World → Prop} (k : EX Q (.exit i) ρ n G L) : EX (Exit.then K Q) (.exit i) ρ n G L := fun w a hS ha => k w a hS ha
theorem EX.then_goto {i : Nat} {K : Act → World → Prop} (k : EX Q (.goto i) ρ n G L) : EX (Exit.then K Q) (.goto i) ρ n G L := fun w a hS ha => k w a hS ha
theorem EX.out {i : Nat} (k : EX Q .normal ρ n G L) : EX (Exit.inBlock i Q) (.exit i) ρ n G L := fun w a hS ha => by simp only [Exit.inBlock, if_true]; exact k w a hS ha
theorem EX.past {i j : Nat} (k : EX Q (.exit j) ρ n G L) (h : Nat.beq j i = false := by rfl) : EX (Exit.inBlock i Q) (.exit j) ρ n G L := fun w a hS ha => by
  have hne : ¬ j = i := fun e => by subst e; rw [Nat.beq_refl] at h; cases h
  simp only [Exit.inBlock, if_neg hne]; exact k w a hS ha
theorem EX.bnormal {i : Nat} (k : EX Q .normal ρ n G L) : EX (Exit.inBlock i Q) .normal ρ n G L := fun w a hS ha => k w a hS ha
theorem EX.bret {i : Nat} (k : EX Q .ret ρ n G L) : EX (Exit.inBlock i Q) .ret ρ n G L := fun w a hS ha => k w a hS ha
theorem EX.bgoto {i j : Nat} (k : EX Q (.goto j) ρ n G L) : EX (Exit.inBlock i Q) (.goto j) ρ n G L := fun w a hS ha => k w a hS ha
theorem EX.sub {e : Exit} (s : Sub ρ' ρ) (k : EX Q e ρ' n G L) : EX Q e ρ n G L := fun w a hS ha => k w a hS (ha.sub s)
theorem EX.perm {e : Exit} (p : L.Perm L') (k : EX Q e ρ n G L') : EX Q e ρ n G L := fun w a hS ha => k w a (hS.perm p) ha

/-! Joins: what holds where ways meet. -/
def Meet {X : Type} (ρi : X → Env) (Li : X → List HProp) (I : X → Prop) (n : Nat) (G : World) : Act → World → Prop := fun a w => ∃ x, I x ∧ Sat G w (Li x) ∧ Ok (ρi x) n a
theorem CT.cut {X : Type} (ρi : X → Env) (Li : X → List HProp) (I : X → Prop) {x y : Code} (k : CT P x (Exit.then (Meet ρi Li I n G) Q) ρ n G L) (k2 : ∀ z, I z → CT P y Q (ρi z) n G (Li z)) :
    CT P (.seq x y) Q ρ n G L := fun w a hS ha => wp_seq (wp_mono (k w a hS ha) fun e a' w' he => by
  cases e with
  | normal => obtain ⟨z, hz, hS', ha'⟩ := he; exact k2 z hz w' a' hS' ha'
  | _ => exact he)
theorem EX.meet {X : Type} {ρi : X → Env} {Li : X → List HProp} {I : X → Prop} (z : X) (hz : I z) (p : L.Perm (Li z)) (s : Sub (ρi z) ρ) : EX (Exit.then (Meet ρi Li I n G) Q) .normal ρ n G L :=
  fun _ _ hS ha => ⟨z, hz, hS.perm p, ha.sub s⟩

/-! Loops. -/
def Again {X : Type} (ρi : X → Env) (Li : X → List HProp) (I : X → Prop) (μ : X → Nat) (n : Nat) (G : World) (x : X) : Act → World → Prop :=
  fun a w => ∃ x', (I x' ∧ μ x' < μ x) ∧ Sat G w (Li x') ∧ Ok (ρi x') n a
theorem EX.again {X : Type} {ρi : X → Env} {Li : X → List HProp} {I : X → Prop} {μ : X → Nat} {x : X} (x' : X) (hz : I x') (hm : μ x' < μ x) (p : L.Perm (Li x')) (s : Sub (ρi x') ρ) :
    EX (Exit.then (Again ρi Li I μ n G x) Q) .normal ρ n G L := fun _ _ hS ha => ⟨x', ⟨hz, hm⟩, hS.perm p, ha.sub s⟩

theorem wp_loop_ghost {X : Type} {c : Code} {w : World} {a : Act} (I : X → Act → World → Prop) (μ : X → Nat) (x : X) (h₀ : I x a w)
    (round : ∀ x a w, I x a w → c.wp P (Exit.then (fun a' w' => ∃ x', I x' a' w' ∧ μ x' < μ x) Q) a w) : (Code.loop c).wp P Q a w := by
  intro b k cs
  have key : ∀ m x a w, μ x = m → I x a w →
      ∃ e a' w', Q e a' w' ∧ Arrives P (lone (b.at a (.code c :: .inLoop c :: k)) cs w) b k cs e a' w' := by
    intro m
    induction m using Nat.strongRecOn with
    | _ m ih =>
      intro x a w hn hI
      obtain ⟨e, a₁, w₁, hq, harr⟩ := round x a w hI b (.inLoop c :: k) cs
      cases e with
      | normal =>
        obtain ⟨x', hI₁, hlt⟩ := hq
        obtain ⟨e₂, a₂, w₂, hq₂, harr₂⟩ := ih (μ x') (hn ▸ hlt) x' a₁ w₁ rfl hI₁
        exact ⟨e₂, a₂, w₂, hq₂, .of_steps (Steps.trans harr (.one step_inLoop)) harr₂⟩
      | exit id => exact ⟨_, a₁, w₁, hq, .pass (x := .inLoop c) rfl (fun _ _ => .inl (by simp)) harr⟩
      | goto l => exact ⟨_, a₁, w₁, hq, .pass (x := .inLoop c) rfl (fun _ _ => .inl (by simp)) harr⟩
      | ret => exact ⟨_, a₁, w₁, hq, .pass (x := .inLoop c) rfl (fun _ _ => .inl (by simp)) harr⟩
      | panic ch => exact ⟨_, a₁, w₁, hq, .pass (x := .inLoop c) rfl (fun _ _ => .inl (by simp)) harr⟩
      | outgrown => exact ⟨_, a₁, w₁, hq, .pass (x := .inLoop c) rfl (fun _ _ => .inl (by simp)) harr⟩
  obtain ⟨e, a', w', hq, harr⟩ := key _ x a w rfl h₀
  exact ⟨e, a', w', hq, .of_steps (.one step_loop) harr⟩

theorem CT.loop {X : Type} (ρi : X → Env) (Li : X → List HProp) (I : X → Prop) (μ : X → Nat) (x : X) {c : Code} (hI : I x) (p : L.Perm (Li x)) (s : Sub (ρi x) ρ)
    (round : ∀ x, I x → CT P c (Exit.then (Again ρi Li I μ n G x) Q) (ρi x) n G (Li x)) : CT P (.loop c) Q ρ n G L :=
  fun w a hS ha => wp_loop_ghost (fun x a w => I x ∧ Sat G w (Li x) ∧ Ok (ρi x) n a) μ x ⟨hI, hS.perm p, ha.sub s⟩ fun x a w ⟨h1, h2, h3⟩ =>
    wp_mono (round x h1 w a h2 h3) fun e a' w' he => by
      cases e with
      | normal => obtain ⟨x', ⟨h4, h5⟩, h6, h7⟩ := he; exact ⟨x', ⟨h4, h6, h7⟩, h5⟩
      | _ => exact he

/-! A scope with jumps to its labels. -/
def Jumps (J : Nat → Act → World → Prop) (Q : Exit → Act → World → Prop) : Exit → Act → World → Prop
  | .goto l, a, w => J l a w
  | e, a, w => Q e a w
theorem wp_scope_ghost {X : Type} {c : Code} {w : World} {a : Act} (J : Nat → X → Act → World → Prop) (μ : Nat → X → Nat)
    (first : c.wp P (Jumps (fun l a w => ∃ x, J l x a w) Q) a w)
    (pass : ∀ l x a w, J l x a w → ∃ rest, findLabel c l = some rest ∧ rest.wp P (Jumps (fun l' a' w' => ∃ x', J l' x' a' w' ∧ μ l' x' < μ l x) Q) a w) : (Code.scope c).wp P Q a w := by
  intro b k cs
  have key : ∀ m l x a w, μ l x = m → J l x a w → ∃ rest, findLabel c l = some rest ∧ ∃ e a' w', Q e a' w' ∧ Arrives P (lone (b.at a (.code rest :: .inScope c :: k)) cs w) b k cs e a' w' := by
    intro m
    induction m using Nat.strongRecOn with
    | _ m ih =>
      intro l x a w hn hJ
      obtain ⟨rest, hf, hp⟩ := pass l x a w hJ
      obtain ⟨e, a₁, w₁, hq, harr⟩ := hp b (.inScope c :: k) cs
      refine ⟨rest, hf, ?_⟩
      cases e with
      | normal => exact ⟨.normal, a₁, w₁, hq, Steps.trans harr (.one step_inScope)⟩
      | exit id => exact ⟨.exit id, a₁, w₁, hq, fun k' hk => harr k' (by simp [exitTo, hk])⟩
      | goto l' =>
        obtain ⟨x', hJ', hlt⟩ := hq
        obtain ⟨rest', hf', e₂, a₂, w₂, hq₂, harr₂⟩ := ih _ (by omega) l' x' a₁ w₁ rfl hJ'
        have hg : gotoIn l' (.inScope c :: k) = some (.code rest' :: .inScope c :: k) := by simp [gotoIn, hf']
        exact ⟨e₂, a₂, w₂, hq₂, .of_steps (harr _ hg) harr₂⟩
      | ret => exact ⟨_, a₁, w₁, hq, harr⟩
      | panic ch => exact ⟨_, a₁, w₁, hq, harr⟩
      | outgrown => exact ⟨_, a₁, w₁, hq, harr⟩
  obtain ⟨e, a₁, w₁, hq, harr⟩ := first b (.inScope c :: k) cs
  cases e with
  | normal => exact ⟨.normal, a₁, w₁, hq, .head step_scope (Steps.trans harr (.one step_inScope))⟩
  | exit id => exact ⟨.exit id, a₁, w₁, hq, fun k' hk => .head step_scope (harr k' (by simp [exitTo, hk]))⟩
  | goto l' =>
    obtain ⟨x', hJ'⟩ := hq
    obtain ⟨rest', hf', e₂, a₂, w₂, hq₂, harr₂⟩ := key _ l' x' a₁ w₁ rfl hJ'
    have hg : gotoIn l' (.inScope c :: k) = some (.code rest' :: .inScope c :: k) := by simp [gotoIn, hf']
    exact ⟨e₂, a₂, w₂, hq₂, .of_steps (.head step_scope (harr _ hg)) harr₂⟩
  | ret => exact ⟨_, a₁, w₁, hq, .of_steps (.one step_scope) harr⟩
  | panic ch => exact ⟨_, a₁, w₁, hq, .of_steps (.one step_scope) harr⟩
  | outgrown => exact ⟨_, a₁, w₁, hq, .of_steps (.one step_scope) harr⟩

/-- A scope through which the run goes without a jump. -/
theorem CT.scope {c : Code} (k : CT P c (Exit.noGoto Q) ρ n G L) : CT P (.scope c) Q ρ n G L := fun w a hS ha => wp_scope_straight (k w a hS ha)

/-! A function's end. -/
variable {fn : Func} {R : Value → World → Prop}
theorem EX.end_ {e : Exit} (he : e = .ret ∨ e = .normal) {v : Value} (hv : ∀ w a, Sat G w L → Ok ρ n a → (results fn a.tmps).run P w = .ok v w) (k : ∀ w, Sat G w L → R v w) : EX (bodyPost P fn (Ret R)) e ρ n G L := fun w a hS ha => by
  rcases he with rfl | rfl <;> exact ⟨ha.defers, v, hv w a hS ha, k w hS⟩
theorem res1 {t : Nat} (h : fn.results = #[.tmp t]) (hm : (t, v) ∈ ρ) : ∀ w a, Sat G w L → Ok ρ n a → (results fn a.tmps).run P w = .ok v w := fun w a _ ha => by
  rw [results_tmp h, ha.vals _ _ hm]
theorem res0 (h : fn.results = #[]) : ∀ w a, Sat G w L → Ok ρ n a → (results fn a.tmps).run P w = .ok (.tuple #[]) w := fun w a _ _ => results_none h _ _ _
theorem res2 {t u : Nat} {x : Value} (h : fn.results = #[.tmp t, .tmp u]) (hm : (t, v) ∈ ρ) (hx : (u, x) ∈ ρ) : ∀ w a, Sat G w L → Ok ρ n a → (results fn a.tmps).run P w = .ok (.tuple #[v, x]) w := fun w a _ ha => by
  rw [results_tmp2 h, ha.vals _ _ hm, ha.vals _ _ hx]
theorem res3 {t u s : Nat} {x y : Value} (h : fn.results = #[.tmp t, .tmp u, .tmp s]) (hm : (t, v) ∈ ρ) (hx : (u, x) ∈ ρ) (hy : (s, y) ∈ ρ) :
    ∀ w a, Sat G w L → Ok ρ n a → (results fn a.tmps).run P w = .ok (.tuple #[v, x, y]) w := fun w a _ ha => by
  have : (results fn a.tmps).run P w = .ok (.tuple #[a.tmps.getD t undef, a.tmps.getD u undef, a.tmps.getD s undef]) w := by simp [results, h]
  rw [this, ha.vals _ _ hm, ha.vals _ _ hx, ha.vals _ _ hy]
end

/-! A function's begin. -/
theorem Ok.args {args : Array Value} {n : Nat} (hn : args.size ≤ n) {ρ : Env} (h : ∀ t v, (t, v) ∈ ρ → args[t]? = some v) :
    Ok ρ n { tmps := args ++ Array.replicate (n - args.size) undef, defers := [] } := by
  refine ⟨by simp; omega, rfl, fun t v hm => ?_⟩
  have := h t v hm
  have hlt := (Array.getElem?_eq_some_iff.1 this).1
  rw [Array.getD_eq_getD_getElem?, Array.getElem?_append_left hlt, this]
  rfl
theorem calls_in {P : Program} {G w : World} {L : List HProp} {f : FuncId} {fn : Func} {c : Code} {n : Nat} {args : Array Value} {R : Value → World → Prop} (ρ : Env)
    (hf : P.funcs[f]? = some fn) (hb : fn.body = some c) (hn : fn.ntmps = n) (hS : Sat G w L) (h : ∀ t v, (t, v) ∈ ρ → args[t]? = some v) (k : CT P c (bodyPost P fn (Ret R)) ρ n G L)
    (hs : Nat.ble args.size n = true := by rfl) : CallsR P f args w R := by
  subst hn
  exact calls_of_wp hf hb (k w _ hS (Ok.args (Nat.le_of_ble_eq_true hs) h))
theorem args_nil {args : Array Value} : ∀ t v, (t, v) ∈ ([] : Env) → args[t]? = some v := fun _ _ h => by cases h
theorem args_cons {args : Array Value} {t : Nat} {v : Value} {ρ : Env} (h : args[t]? = some v) (hs : ∀ t v, (t, v) ∈ ρ → args[t]? = some v) : ∀ t' v', (t', v') ∈ ((t, v) :: ρ) → args[t']? = some v' := fun t' v' hm => by
  cases hm with
  | head => exact h
  | tail _ hm => exact hs _ _ hm
theorem args0 : ∀ t v, (t, v) ∈ ([] : Env) → (#[] : Array Value)[t]? = some v := args_nil
theorem args1 {x0 : Value} : ∀ t v, (t, v) ∈ ([(0, x0)] : Env) → (#[x0] : Array Value)[t]? = some v := (args_cons rfl args_nil)
theorem args2 {x0 x1 : Value} : ∀ t v, (t, v) ∈ ([(0, x0), (1, x1)] : Env) → (#[x0, x1] : Array Value)[t]? = some v := (args_cons rfl (args_cons rfl args_nil))
theorem args3 {x0 x1 x2 : Value} : ∀ t v, (t, v) ∈ ([(0, x0), (1, x1), (2, x2)] : Env) → (#[x0, x1, x2] : Array Value)[t]? = some v := (args_cons rfl (args_cons rfl (args_cons rfl args_nil)))
theorem args4 {x0 x1 x2 x3 : Value} : ∀ t v, (t, v) ∈ ([(0, x0), (1, x1), (2, x2), (3, x3)] : Env) → (#[x0, x1, x2, x3] : Array Value)[t]? = some v := (args_cons rfl (args_cons rfl (args_cons rfl (args_cons rfl args_nil))))
theorem args5 {x0 x1 x2 x3 x4 : Value} : ∀ t v, (t, v) ∈ ([(0, x0), (1, x1), (2, x2), (3, x3), (4, x4)] : Env) → (#[x0, x1, x2, x3, x4] : Array Value)[t]? = some v := (args_cons rfl (args_cons rfl (args_cons rfl (args_cons rfl (args_cons rfl args_nil)))))
theorem args6 {x0 x1 x2 x3 x4 x5 : Value} : ∀ t v, (t, v) ∈ ([(0, x0), (1, x1), (2, x2), (3, x3), (4, x4), (5, x5)] : Env) → (#[x0, x1, x2, x3, x4, x5] : Array Value)[t]? = some v := (args_cons rfl (args_cons rfl (args_cons rfl (args_cons rfl (args_cons rfl (args_cons rfl args_nil))))))
theorem args7 {x0 x1 x2 x3 x4 x5 x6 : Value} : ∀ t v, (t, v) ∈ ([(0, x0), (1, x1), (2, x2), (3, x3), (4, x4), (5, x5), (6, x6)] : Env) → (#[x0, x1, x2, x3, x4, x5, x6] : Array Value)[t]? = some v := (args_cons rfl (args_cons rfl (args_cons rfl (args_cons rfl (args_cons rfl (args_cons rfl (args_cons rfl args_nil)))))))
theorem args8 {x0 x1 x2 x3 x4 x5 x6 x7 : Value} : ∀ t v, (t, v) ∈ ([(0, x0), (1, x1), (2, x2), (3, x3), (4, x4), (5, x5), (6, x6), (7, x7)] : Env) → (#[x0, x1, x2, x3, x4, x5, x6, x7] : Array Value)[t]? = some v := (args_cons rfl (args_cons rfl (args_cons rfl (args_cons rfl (args_cons rfl (args_cons rfl (args_cons rfl (args_cons rfl args_nil))))))))
end Go.Eng
