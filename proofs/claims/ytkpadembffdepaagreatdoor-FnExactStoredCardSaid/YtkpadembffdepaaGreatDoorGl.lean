/- Opening and closing what stands between two steps. -/
import Derived.Test.YtkpadembffdepaaGreatDoorGk
namespace Go.Eng
open Go Go.Proofs Go.Infl
set_option maxRecDepth 20000
theorem TR.shape {hb : Nat} {hist : Nat → Nat} {v : Value} {c : List Nat} (h : TR hb hist v c) : ∃ p cp, v = .slice p c.length cp := by
  rcases h with ⟨rfl, rfl⟩ | ⟨a, cp, h, _⟩
  · exact ⟨none, 0, rfl⟩
  · exact ⟨_, cp, h⟩
theorem TR.at_ {hb : Nat} {hist : Nat → Nat} {v : Value} {c : List Nat} (h : TR hb hist v c) (hc : 0 < c.length) : ∃ a cp, v = .slice (some ⟨hb, a, none⟩) c.length cp ∧ c.length ≤ cp ∧ a + c.length ≤ 32768 ∧ ∀ j x, c[j]? = some x → hist (a + j) = x := by
  rcases h with ⟨rfl, rfl⟩ | h
  · cases hc
  · exact h
section
variable {P : Program} {G w : World} {ρ : Env} {n : Nat} {R : List HProp} {Q : Exit → Act → World → Prop} {f r hb i : Nat} {B : List Bool} {hF del h un : List Nat} {eof : Value} {ok : Nat → Prop} {s : DS}
theorem CT.rsOpen {cd : Code} (k : ∀ s i hist h c un p cp, Base r hb B s i hist h → h = del ++ (c ++ un) → un.length = s.wr - s.rd → TR hb hist s.toRead c → s.toRead = .slice p c.length cp →
    CT P cd Q ρ n G (blk f 1054 (D s) :: Br r B i :: blk hb 32768 (fun j => u8 (hist j)) :: Qt B hF eof s i h un ok :: R)) : CT P cd Q ρ n G (RSA f r hb B hF eof del ok :: R) := fun w a hS ha => by
  obtain ⟨⟨s, i, hist, h, c, un⟩, hS⟩ := hS.ex
  obtain ⟨⟨h1, h2, h3, h4⟩, hS⟩ := (Sat.unsep hS).pure
  obtain ⟨p, cp, h5⟩ := h4.shape
  exact k s i hist h c un p cp h1 h2 h3 h4 h5 w a hS ha
theorem CT.qtSplit {cd : Code} (k1 : ∀ mu, s.err = .nilIface → ok mu → CT P cd Q ρ n G (Pl B hF s i h mu :: R)) (k2 : s.err = eof → h = hF → un = [] → CT P cd Q ρ n G R) : CT P cd Q ρ n G (Qt B hF eof s i h un ok :: R) := fun w a hS ha => by
  obtain ⟨o, hS⟩ := hS.ex
  cases o with
  | some mu =>
    obtain ⟨⟨h5, h6⟩, hS⟩ := (Sat.unsep hS).pure
    exact k1 mu h5 h6 w a hS ha
  | none =>
    obtain ⟨⟨h5, h6, h7⟩, hS⟩ := hS.pure
    exact k2 h5 h6 h7 w a hS ha
theorem CT.plStep {cd : Code} {mu : Nat} (k1 : s.step = .func (.func 68) #[] #[] → CT P cd Q ρ n G (Pl B hF s i h mu :: R)) (k2 : s.step = .func (.func 110) #[] #[] → CT P cd Q ρ n G (Pl B hF s i h mu :: R)) : CT P cd Q ρ n G (Pl B hF s i h mu :: R) := fun w a hS ha => by
  obtain ⟨m, hm, _⟩ := hS.obj (List.mem_cons_self ..)
  cases hm with
  | blk e => exact k1 e w a hS ha
  | copy e => exact k2 e w a hS ha
theorem Pl.toRead {mu : Nat} {v : Value} : ∀ m, Pl B hF s i h mu m → Pl B hF { s with toRead := v } i h mu m := fun m hm => by
  cases hm with
  | blk a1 a2 a3 a4 a5 a6 => exact .blk a1 a2 a3 a4 a5 a6
  | copy a1 a2 a3 a4 a5 a6 a7 a8 => exact .copy a1 a2 a3 a4 a5 a6 a7 a8
theorem Pl.less {mu : Nat} {m : PH} (hm : Pl B hF s i h mu m) : True := trivial
/-- A step. -/
theorem step68 {ea : Addr} {mu : Nat} {hist : Nat → Nat} (hE : EOFIs G ea) (hBl : B.length < 1099511627776) (H : Base r hb B s i hist (del ++ un)) (hu : un.length = s.wr - s.rd) (htr : TR hb hist s.toRead []) (herr : s.err = .nilIface) (hst : s.step = .func (.func 68) #[] #[])
    (hS : Sat G w (blk f 1054 (D s) :: Br r B i :: blk hb 32768 (fun j => u8 (hist j)) :: Pl B hF s i (del ++ un) mu :: R)) : CallsR Tryz.prog 68 #[.pointer (some ⟨f, 0, none⟩)] w (fun _ w' => Sat G w' (RSA f r hb B hF (.iface 187 (.pointer (some ea))) del (· < mu) :: R)) := by
  obtain ⟨m, hm, _⟩ := hS.obj (show Pl B hF s i (del ++ un) mu ∈ _ from .tail _ (.tail _ (.tail _ (List.mem_cons_self ..))))
  have hS' := (hS.perm p3).tail
  cases hm with
  | copy e => rw [e] at hst; cases hst
  | @blk k _ st tail _ a1 a2 a3 a4 a5 a6 =>
    obtain ⟨fin, b, rest, h1, rfl, hb, hl, hf1, hf2⟩ := a5.head
    rw [List.append_assoc] at a4
    cases hb with
    | @stored ps xs b1 b2 b3 b4 =>
      refine t68_s hE hBl H hu htr herr a3 a2 b1 b2 b3 b4 a4 ⟨?_, ?_⟩ (by omega) hS'
      · intro e; exact (hf1 e).2
      · intro e; exact ⟨rest, tail, rfl, hf2 e⟩
theorem step110 {ea : Addr} {mu : Nat} {hist : Nat → Nat} (hE : EOFIs G ea) (hBl : B.length < 1099511627776) (H : Base r hb B s i hist (del ++ un)) (hu : un.length = s.wr - s.rd) (htr : TR hb hist s.toRead []) (herr : s.err = .nilIface) (hst : s.step = .func (.func 110) #[] #[])
    (hS : Sat G w (blk f 1054 (D s) :: Br r B i :: blk hb 32768 (fun j => u8 (hist j)) :: Pl B hF s i (del ++ un) mu :: R)) : CallsR Tryz.prog 110 #[.pointer (some ⟨f, 0, none⟩)] w (fun _ w' => Sat G w' (RSA f r hb B hF (.iface 187 (.pointer (some ea))) del (· < mu) :: R)) := by
  obtain ⟨m, hm, _⟩ := hS.obj (show Pl B hF s i (del ++ un) mu ∈ _ from .tail _ (.tail _ (.tail _ (List.mem_cons_self ..))))
  have hS' := (hS.perm p3).tail
  cases hm with
  | blk e => rw [e] at hst; cases hst
  | copy a1 a2 a3 a4 a5 a6 a7 a8 => exact CallsR.mono (t110 hE hBl H hu htr herr a4 a2 a3 a5 a6 a7 (by omega) hS') fun _ _ h => h.toA
end
end Go.Eng
