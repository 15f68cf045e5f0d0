/- Regions whose order is open, taken order by order. -/
import Derived.Test.YtkpadembffdepaaGreatDoorEi
namespace Go.Eng
open Go

/-- No way out by a panic. -/
def NP (Q : Exit → Act → World → Prop) : Prop := ∀ c a w, ¬ Q (.panic c) a w
theorem NP.body {P : Program} {fn : Func} {R : Value → World → Prop} : NP (bodyPost P fn (Ret R)) := fun _ _ _ h => h.2
theorem NP.then_ {Q : Exit → Act → World → Prop} {K : Act → World → Prop} (h : NP Q) : NP (Exit.then K Q) := fun c a w hq => h c a w hq
theorem NP.inBlock {Q : Exit → Act → World → Prop} {i : Nat} (h : NP Q) : NP (Exit.inBlock i Q) := fun c a w hq => h c a w hq
theorem NP.jumps {Q : Exit → Act → World → Prop} {J : Nat → Act → World → Prop} (h : NP Q) : NP (Jumps J Q) := fun c a w hq => h c a w hq

def TA (P : Program) (Q : Exit → Act → World → Prop) (ops : Array Oper) (fuel : Nat) (listed : Array Bool) (ρ : Env) (n : Nat) (G : World) (L : List HProp) : Prop :=
  ∀ w a, Sat G w L → Ok ρ n a → wpAny P .any ops Q fuel listed a w
def TB (P : Program) (Q : Exit → Act → World → Prop) (ops : Array Oper) (fuel : Nat) (listed : Array Bool) (ρ : Env) (n : Nat) (w : World) : Prop := ∀ a, Ok ρ n a → wpAny P .any ops Q fuel listed a w
def TO (P : Program) (Q : Exit → Act → World → Prop) (ops : Array Oper) (fuel : Nat) (listed : Array Bool) (i : Nat) (ρ : Env) (n : Nat) (G : World) (L : List HProp) : Prop :=
  ∀ w a, Sat G w L → Ok ρ n a → wpOp P ops Q i (wpAny P .any ops Q fuel (listed.setIfInBounds i true)) a w

section
variable {P : Program} {G : World} {ρ ρ' : Env} {n : Nat} {L L' : List HProp} {Q : Exit → Act → World → Prop} {ops : Array Oper} {fuel : Nat} {listed : Array Bool}
  {d : Nat} {op : Op} {ty : TypeId} {pos : String} {af : Array Edge} {v : Value}
theorem CT.any {id : Nat} (hm : P.follows .mixedOrders = true) (k : TA P Q ops ops.size (Array.replicate ops.size false) ρ n G L) : CT P (.region id ops true) Q ρ n G L :=
  fun w a hS ha => wp_region_any hm (k _ a (hS.drew _) ha)
/-- Operation i looks at nothing of the world: it may come first. -/
theorem TA.take (i : Nat) (hi : ops[i]? = some ⟨some d, op, ty, pos, af, none⟩) (hs : Region.noSelect ops = true) (hf : Region.free .any ops listed i = true) (hr : (Region.ready .any ops listed).contains i = true) (hQ : NP Q)
    (hrun : ∀ G L, Run P G ρ n L ⟨some d, op, ty, pos, af, none⟩ v) (k : TA P Q ops fuel (listed.setIfInBounds i true) ((d, v) :: ρ) n G L) (hc : chk d n ρ = true := by rfl) : TA P Q ops (fuel + 1) listed ρ n G L :=
  fun w a hS ha => wpAny_take hi hs hf hr (fun c a w h => (hQ c _ w h).elim) (.inl ⟨rfl, fun w' => hrun w' [] w' a (Sat.begin w') ha⟩) (k w _ hS (ha.put hc))
theorem TA.takeg {j g : Nat} {b : Bool} (i : Nat) (hi : ops[i]? = some ⟨some d, op, ty, pos, af, some (j, b)⟩) (hs : Region.noSelect ops = true) (hf : Region.free .any ops listed i = true) (hr : (Region.ready .any ops listed).contains i = true) (hQ : NP Q)
    (hb : (g, .bool b) ∈ ρ) (hrun : ∀ G L, Run P G ρ n L ⟨some d, op, ty, pos, af, some (j, b)⟩ v) (k : TA P Q ops fuel (listed.setIfInBounds i true) ((d, v) :: ρ) n G L) (hj : (ops[j]?).bind (·.dst) = some g) (hc : chk d n ρ = true := by rfl) : TA P Q ops (fuel + 1) listed ρ n G L :=
  fun w a hS ha => wpAny_take hi hs hf hr (fun c a w h => (hQ c _ w h).elim) (.inl ⟨by rw [wanted_of hj hb ha]; simp, fun w' => hrun w' [] w' a (Sat.begin w') ha⟩) (k w _ hS (ha.put hc))
theorem TA.one (i : Nat) (hr : Region.ready .any ops listed = [i]) (k : TO P Q ops fuel listed i ρ n G L) : TA P Q ops (fuel + 1) listed ρ n G L :=
  fun w a hS ha => wpAny_all hr (by simp) fun j hj => by
    rw [List.mem_singleton] at hj; subst hj; exact k w a hS ha
theorem TA.two (i j : Nat) (hr : Region.ready .any ops listed = [i, j]) (k : TO P Q ops fuel listed i ρ n G L) (k2 : TO P Q ops fuel listed j ρ n G L) : TA P Q ops (fuel + 1) listed ρ n G L :=
  fun w a hS ha => wpAny_all hr (by simp) fun q hq => by
    rcases List.mem_cons.1 hq with h | h
    · subst h; exact k w a hS ha
    · rw [List.mem_singleton] at h; subst h; exact k2 w a hS ha
theorem TA.done (hr : Region.ready .any ops listed = []) (k : EX Q .normal ρ n G L) : TA P Q ops fuel listed ρ n G L := fun w a hS ha => wpAny_done hr (k w a hS ha) fuel
theorem TA.perm (p : L.Perm L') (k : TA P Q ops fuel listed ρ n G L') : TA P Q ops fuel listed ρ n G L := fun w a hS ha => k w a (hS.perm p) ha
theorem TA.sub (s : Sub ρ' ρ) (k : TA P Q ops fuel listed ρ' n G L) : TA P Q ops fuel listed ρ n G L := fun w a hS ha => k w a hS (ha.sub s)
theorem TO.perm {i : Nat} (p : L.Perm L') (k : TO P Q ops fuel listed i ρ n G L') : TO P Q ops fuel listed i ρ n G L := fun w a hS ha => k w a (hS.perm p) ha
theorem TB.at {w : World} (hS : Sat G w L) (k : TA P Q ops fuel listed ρ n G L) : TB P Q ops fuel listed ρ n w := fun a ha => k w a hS ha
theorem TO.val {i : Nat} (hi : ops[i]? = some ⟨some d, op, ty, pos, af, none⟩) (hr : Run P G ρ n L ⟨some d, op, ty, pos, af, none⟩ v) (k : TA P Q ops fuel (listed.setIfInBounds i true) ((d, v) :: ρ) n G L) (hc : chk d n ρ = true := by rfl) :
    TO P Q ops fuel listed i ρ n G L := fun w a hS ha => by
  unfold wpOp
  simp only [hi, Region.wanted, if_true]
  refine .inl ?_
  unfold Oper.wp
  rw [hr w a hS ha, Oper.upon_value]
  exact k w _ hS (ha.put hc)
theorem TO.s {i : Nat} (hi : ops[i]? = some ⟨none, op, ty, pos, af, none⟩) (hr : RunS P G ρ n L ⟨none, op, ty, pos, af, none⟩ L') (k : TA P Q ops fuel (listed.setIfInBounds i true) ρ n G L') :
    TO P Q ops fuel listed i ρ n G L := fun w a hS ha => by
  unfold wpOp
  simp only [hi, Region.wanted, if_true]
  refine .inl ?_
  unfold Oper.wp
  obtain ⟨w', e, hS'⟩ := hr w a hS ha
  rw [e, Oper.upon_skip]
  exact k w' _ hS' ha
theorem TO.w {i : Nat} {K : Value → World → Prop} (hi : ops[i]? = some ⟨some d, op, ty, pos, af, none⟩) (hr : RunW P G ρ n L ⟨some d, op, ty, pos, af, none⟩ K) (k : ∀ v w, K v w → TB P Q ops fuel (listed.setIfInBounds i true) ((d, v) :: ρ) n w)
    (hc : chk d n ρ = true := by rfl) : TO P Q ops fuel listed i ρ n G L := fun w a hS ha => by
  unfold wpOp
  simp only [hi, Region.wanted, if_true]
  refine .inl ?_
  unfold Oper.wp
  obtain ⟨v, w', e, hk⟩ := hr w a hS ha
  rw [e, Oper.upon_value]
  exact k v w' hk _ (ha.put hc)
theorem TO.call {i : Nat} {f : FuncId} {args : Array Value} {R : Value → World → Prop} (hi : ops[i]? = some ⟨some d, op, ty, pos, af, none⟩) (hr : RunC P G ρ n L ⟨some d, op, ty, pos, af, none⟩ f args)
    (hcc : ∀ w, Sat G w L → CallsR P f args w R) (k : ∀ v w, R v w → TB P Q ops fuel (listed.setIfInBounds i true) ((d, v) :: ρ) n w) (hc : chk d n ρ = true := by rfl) : TO P Q ops fuel listed i ρ n G L := fun w a hS ha => by
  unfold wpOp
  simp only [hi, Region.wanted, if_true]
  refine .inl ?_
  unfold Oper.wp
  rw [hr w a hS ha, Oper.upon_enter]
  refine Calls.mono (hcc w hS) fun e w' he => ?_
  cases e with
  | returned v => exact k v w' he _ (ha.put hc)
  | panicked _ => exact he.elim
  | outgrown => exact he.elim
theorem TO.gcall {i j g : Nat} {b : Bool} {f : FuncId} {args : Array Value} {R : Value → World → Prop} (hi : ops[i]? = some ⟨some d, op, ty, pos, af, some (j, b)⟩) (hb : (g, .bool b) ∈ ρ) (hr : RunC P G ρ n L ⟨some d, op, ty, pos, af, some (j, b)⟩ f args)
    (hcc : ∀ w, Sat G w L → CallsR P f args w R) (k : ∀ v w, R v w → TB P Q ops fuel (listed.setIfInBounds i true) ((d, v) :: ρ) n w) (hj : (ops[j]?).bind (·.dst) = some g) (hc : chk d n ρ = true := by rfl) : TO P Q ops fuel listed i ρ n G L := fun w a hS ha => by
  unfold wpOp
  simp only [hi]
  rw [wanted_of hj hb ha, beq_self_eq_true, if_pos rfl]
  refine .inl ?_
  unfold Oper.wp
  rw [hr w a hS ha, Oper.upon_enter]
  refine Calls.mono (hcc w hS) fun e w' he => ?_
  cases e with
  | returned v => exact k v w' he _ (ha.put hc)
  | panicked _ => exact he.elim
  | outgrown => exact he.elim
theorem TO.gval {i j g : Nat} {b : Bool} (hi : ops[i]? = some ⟨some d, op, ty, pos, af, some (j, b)⟩) (hb : (g, .bool b) ∈ ρ) (hr : Run P G ρ n L ⟨some d, op, ty, pos, af, some (j, b)⟩ v) (k : TA P Q ops fuel (listed.setIfInBounds i true) ((d, v) :: ρ) n G L)
    (hj : (ops[j]?).bind (·.dst) = some g) (hc : chk d n ρ = true := by rfl) : TO P Q ops fuel listed i ρ n G L := fun w a hS ha => by
  unfold wpOp
  simp only [hi]
  rw [wanted_of hj hb ha, beq_self_eq_true, if_pos rfl]
  refine .inl ?_
  unfold Oper.wp
  rw [hr w a hS ha, Oper.upon_value]
  exact k w _ hS (ha.put hc)
theorem TO.gn {i j g : Nat} {b want : Bool} (hi : ops[i]? = some ⟨some d, op, ty, pos, af, some (j, want)⟩) (hb : (g, .bool b) ∈ ρ) (hw : (b == want) = false) (k : TA P Q ops fuel (listed.setIfInBounds i true) ρ n G L)
    (hj : (ops[j]?).bind (·.dst) = some g) (hc : ρ.all (fun x => !(Nat.beq x.1 d)) = true := by rfl) : TO P Q ops fuel listed i ρ n G L := fun w a hS ha => by
  unfold wpOp
  simp only [hi]
  rw [wanted_of hj hb ha, hw, if_neg (by simp)]
  exact k w _ hS (ha.forget hc)
end
end Go.Eng
