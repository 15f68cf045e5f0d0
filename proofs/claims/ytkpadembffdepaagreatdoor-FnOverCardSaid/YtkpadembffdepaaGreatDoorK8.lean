/- Parts of the proof of the card: Bv -/
import Derived.Test.YtkpadembffdepaaGreatDoorK5
set_option maxRecDepth 100000
set_option maxHeartbeats 4000000
set_option linter.unusedVariables false
set_option linter.unusedSimpArgs false
namespace Go.Infl
theorem set_getD_ne {o : List Nat} {i s v : Nat} (h : s ≠ i) : (o.set i v).getD s 0 = o.getD s 0 := by
 rw [List.getD_eq_getElem?_getD, List.getD_eq_getElem?_getD, List.getElem?_set, if_neg (fun e => h e.symm)]
theorem set_getD_self {o : List Nat} {i v : Nat} (h : i < o.length) : (o.set i v).getD i 0 = v := by
 rw [List.getD_eq_getElem?_getD, List.getElem?_set, if_pos rfl, if_pos h]; rfl
theorem ordr_inj : ∀ i, i < 19 → ∀ k, k < 19 → ordr.getD i 0 = ordr.getD k 0 → i = k := by decide
structure OwnI (many k : Nat) (o : List Nat) (z : List Bool) : Prop where
 len : o.length = 19
 le : ∀ x ∈ o, x ≤ 2
 zero : ∀ i, min k many ≤ i → i < 19 → o.getD (ordr.getD i 0) 0 = 0
 much : 8192 * min k many ≤ kraft o
 bits : z = (ordr.take (min k many)).flatMap (fun s => nbits 3 (o.getD s 0))
theorem OwnI.start {many : Nat} : OwnI many 0 (List.replicate 19 0) [] := by
 refine ⟨List.length_replicate, fun x hx => by rw [(List.mem_replicate.1 hx).2]; decide, fun i _ _ => ?_, by rw [Nat.zero_min]; exact Nat.zero_le _, by rw [Nat.zero_min]; rfl⟩
 rw [List.getD_eq_getElem?_getD, List.getElem?_replicate]; split <;> rfl
theorem OwnI.put {many k v : Nat} {o : List Nat} {z : List Bool} (H : OwnI many k o z) (hk : k < many) (hm : many ≤ 19) (h1 : 1 ≤ v) (h2 : v ≤ 2) : OwnI many (k + 1) (o.set (ordr.getD k 0) v) (z ++ nbits 3 v) := by
 have hq : ordr.getD k 0 < 19 := by
  have : ∀ i, i < 19 → ordr.getD i 0 < 19 := by decide
  exact this k (by omega)
 have hlen := H.len
 have e1 : min k many = k := Nat.min_eq_left (by omega)
 have e2 : min (k + 1) many = k + 1 := Nat.min_eq_left (by omega)
 have hz := H.zero k (by omega) (by omega)
 have hoq : o[ordr.getD k 0]? = some 0 := by
  have := getD_get (show ordr.getD k 0 < o.length by omega)
  rw [hz] at this; exact this
 have hne : ∀ s, s ≠ ordr.getD k 0 → (o.set (ordr.getD k 0) v).getD s 0 = o.getD s 0 := fun s hs => set_getD_ne hs
 have hself : (o.set (ordr.getD k 0) v).getD (ordr.getD k 0) 0 = v := set_getD_self (by omega)
 refine ⟨by rw [List.length_set]; exact H.len, fun x hx => ?_, fun i hi hi2 => ?_, ?_, ?_⟩
 ·
  rcases List.mem_or_eq_of_mem_set hx with h | h
  ·
   exact H.le x h
  omega
 ·
  rw [hne _ (fun h => by have := ordr_inj i hi2 k (by omega) h; omega)]
  exact H.zero i (by omega) hi2
 ·
  have h3 := kraft_set (y := v) hoq
  have h4 : 8192 ≤ wt v := by
   have : v = 1 ∨ v = 2 := by omega
   rcases this with rfl | rfl <;> decide
  have h5 := H.much
  have h6 : wt 0 = 0 := rfl
  rw [e1] at h5
  rw [e2]
  omega
 rw [e2, List.take_add_one, getD_get (show k < ordr.length by show k < 19; omega), List.flatMap_append]
 show _ = _ ++ List.flatMap (fun s => nbits 3 ((o.set (ordr.getD k 0) v).getD s 0)) [ordr.getD k 0]
 rw [List.flatMap_cons, List.flatMap_nil, List.append_nil, hself, H.bits, e1]
 congr 1
 rw [List.flatMap_def, List.flatMap_def]
 congr 1
 refine List.map_congr_left fun s hs => ?_
 rw [hne s fun h => ?_]
 obtain ⟨i, hi, e⟩ := List.getElem_of_mem hs
 rw [List.length_take] at hi
 rw [List.getElem_take] at e
 have e3 : ordr.getD i 0 = s := by rw [List.getD_eq_getElem?_getD, List.getElem?_eq_getElem (by omega), e]; rfl
 have := ordr_inj i (by omega) k (by omega) (e3.trans h)
 omega
theorem OwnI.keep {many k : Nat} {o : List Nat} {z : List Bool} (H : OwnI many k o z) (hk : many ≤ k) : OwnI many (k + 1) o z := by
 have e1 : min k many = many := Nat.min_eq_right hk
 have e2 : min (k + 1) many = many := Nat.min_eq_right (by omega)
 refine ⟨H.len, H.le, fun i h1 h2 => H.zero i (by omega) h2, by have := H.much; rw [e1] at this; rw [e2]; exact this, by have := H.bits; rw [e1] at this; rw [e2]; exact this⟩
def OwnX (many k : Nat) (x : List Bool) : Prop := ∃ o z r, x = z ++ r ∧ OwnI many k o z ∧ (k ≤ many → r = [])
theorem OwnX.start {many : Nat} : OwnX many 0 [] := ⟨_, [], [], rfl, .start, fun _ => rfl⟩
theorem OwnX.step {many k v : Nat} {x : List Bool} (H : OwnX many k x) (hm : many ≤ 19) (h1 : 1 ≤ v) (h2 : v ≤ 2) : OwnX many (k + 1) (x ++ nbits 3 v) := by
 obtain ⟨o, z, r, rfl, ho, hr⟩ := H
 rcases Nat.lt_or_ge k many with hk | hk
 ·
  rw [hr (by omega), List.append_nil]
  exact ⟨_, _, [], (List.append_nil _).symm, ho.put hk hm h1 h2, fun _ => rfl⟩
 exact ⟨o, z, r ++ nbits 3 v, List.append_assoc _ _ _, ho.keep hk, fun h => by omega⟩
theorem OwnI.over {many : Nat} {o : List Nat} {z : List Bool} (H : OwnI many 19 o z) (h5 : 5 ≤ many) (hm : many ≤ 19) : Over o := by
 have h := H.much
 rw [Nat.min_eq_right hm] at h
 show 2 ^ 15 < nx o 16
 rw [kraft_nx (fun x hx => Nat.le_trans (H.le x hx) (by decide))]
 omega
theorem OwnI.hd {many : Nat} {o : List Nat} {z : List Bool} (H : OwnI many 19 o z) (h4 : 4 ≤ many) (hm : many ≤ 19) : OwnHd (nbits 5 29 ++ (nbits 5 29 ++ (nbits 4 (many - 4) ++ z))) o 286 30 := by
 have e : min 19 many = many := Nat.min_eq_right hm
 refine ⟨many, H.len, fun x hx => Nat.le_trans (H.le x hx) (by decide), h4, hm, fun i h1 h2 => H.zero i (by omega) h2, by decide, by decide, by decide, by decide, ?_⟩
 rw [H.bits, e]
theorem OwnX.bad {y pos : Nat} {h : List Nat} {x rest : List Bool} (H : OwnX (5 + y) 19 x) (hy : y < 15) : IsBad pos h (nbits 3 5 ++ (nbits 5 29 ++ (nbits 5 29 ++ (nbits 4 (1 + y) ++ (x ++ rest))))) h := by
 obtain ⟨o, z, r, rfl, ho, hr⟩ := H
 have h2 := ho.hd (by omega) (by omega)
 rw [show 5 + y - 4 = 1 + y by omega] at h2
 have := IsBad.own (pos := pos) (h := h) (f := true) (rest := r ++ rest) h2 (ho.over (by omega) (by omega))
 simp only [List.append_assoc] at this ⊢
 exact this
theorem lok_mk {ls : List Nat} {k : Nat} (h1 : 1 ≤ ls.getD k 0) (h15 : ∀ x ∈ ls, x ≤ 15) : LOk ls k := by
 have hk : k < ls.length := by
  rcases Nat.lt_or_ge k ls.length with h | h
  ·
   exact h
  rw [List.getD_eq_getElem?_getD, List.getElem?_eq_none h] at h1; exact absurd h1 (by decide)
 exact ⟨hk, h1, h15 _ (List.mem_of_getElem? (getD_get hk))⟩
theorem over_dec {m : List Nat} {k x : Nat} (h : Full m) (h15 : ∀ x ∈ m, x ≤ 15) (hk : m[k]? = some x) (hx : 1 < x) : Over (m.set k (x - 1)) := by
 have h0 := h.kraft h15
 have hx15 := h15 x (List.mem_of_getElem? hk)
 show 2 ^ 15 < nx _ 16
 rw [kraft_nx (fun y hy => (List.mem_or_eq_of_mem_set hy).elim (h15 y) (fun e => by omega))]
 have h1 := kraft_set (y := x - 1) hk
 have h2 := wt_half (x := x - 1) (by omega) (by omega)
 rw [show x - 1 + 1 = x by omega] at h2
 have h3 : 0 < wt x := by unfold wt; rw [if_neg (by omega)]; exact Nat.pos_of_ne_zero (by simp)
 omega
theorem over_new {m : List Nat} {k y : Nat} (h : Full m) (h15 : ∀ x ∈ m, x ≤ 15) (hk : m[k]? = some 0) (h1 : 1 ≤ y) (h2 : y ≤ 15) : Over (m.set k y) := by
 have h0 := h.kraft h15
 show 2 ^ 15 < nx _ 16
 rw [kraft_nx (fun x hx => (List.mem_or_eq_of_mem_set hx).elim (h15 x) (fun e => by omega))]
 have h3 := kraft_set (y := y) hk
 have h4 : wt 0 = 0 := rfl
 have h5 : 0 < wt y := by unfold wt; rw [if_neg (by omega)]; exact Nat.pos_of_ne_zero (by simp)
 omega
theorem not_ones {m : List Nat} (h : Full m) (h15 : ∀ x ∈ m, x ≤ 15) (hl : 3 ≤ m.length) (h1 : ∀ i, i < m.length → m.getD i 0 = 1) : False := by
 have h0 := h.kraft h15
 rw [kraft_all (M := 1) (fun x hx => by
  obtain ⟨i, hi⟩ := List.getElem?_of_mem hx
  have := h1 i (List.getElem?_eq_some_iff.1 hi).1
  rw [List.getD_eq_getElem?_getD, hi] at this
  exact this)] at h0
 have : wt 1 = 16384 := by decide
 rw [this] at h0
 omega
theorem set_ge {m : List Nat} {k y i : Nat} (h1 : 1 ≤ y) (hi : 1 ≤ m.getD i 0) : 1 ≤ (m.set k y).getD i 0 := by
 rw [List.getD_eq_getElem?_getD, List.getElem?_set]
 split
 ·
  split
  ·
   exact h1
  rename_i e h; subst e; rw [List.getD_eq_getElem?_getD, List.getElem?_eq_none (by omega)] at hi; exact hi
 rw [← List.getD_eq_getElem?_getD]; exact hi
end Go.Infl
