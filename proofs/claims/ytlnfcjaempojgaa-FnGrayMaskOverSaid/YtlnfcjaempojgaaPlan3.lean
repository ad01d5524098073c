/- The rule for drawn regions, where of each operation's value a predicate is known that may speak of the blocks that the operation made (from lo to, but without, hi). -/
import Derived.Test.YtlnfcjaempojgaaPlan2
namespace Go.Proofs.Ytlnfcjaempojgaa.Plan
open Go.RowKit

def StableL (f : Value → Nat → Nat → World → Prop) : Prop := ∀ v lo hi w w', f v lo hi w → hi ≤ w.heap.size → Below w.heap.size w w' → f v lo hi w'
theorem stl_const (c : Value) : StableL (fun v _ _ _ => v = c) := fun _ _ _ _ _ h _ _ => h
def StabAllL : List (Value → Nat → Nat → World → Prop) → Prop
  | [] => True
  | f :: r => StableL f ∧ StabAllL r
def anyL_ : Value → Nat → Nat → World → Prop := fun _ _ _ _ => True
theorem StabAllL.get : ∀ {fs : List (Value → Nat → Nat → World → Prop)}, StabAllL fs → ∀ i, StableL (fs.getD i anyL_)
  | [], _, i => by intro v lo hi w w' _ _ _; simp [anyL_]
  | f :: r, h, i => by
    cases i with
    | zero => exact h.1
    | succ i => simpa using StabAllL.get h.2 i

def FL (fs : List (Value → Nat → Nat → World → Prop)) : Nat → Value → Nat → Nat → World → Prop := fun i v lo hi w => fs.getD i anyL_ v lo hi w

theorem dep_l {fs : List (Value → Nat → Nat → World → Prop)} {i b : Nat} {v : Value} {w : World} (h : ∃ lo hi, b ≤ lo ∧ hi ≤ w.heap.size ∧ FL fs i v lo hi w) : ∃ lo hi, b ≤ lo ∧ hi ≤ w.heap.size ∧ fs.getD i anyL_ v lo hi w := h

section
variable {P : Program} {i : Nat} {o : Oper} {a : Act} {w : World} {Q : Exit → Act → World → Prop} {fs : List (Value → Nat → Nat → World → Prop)}
theorem stepl_pure {E : List Nat} (hE : E.contains i = false) (v : Value) (h : (execOp a.eval o).run P w = .ok (.value v) w) (hf : fs.getD i anyL_ v w.heap.size w.heap.size w) : Goal P E (FL fs) i o a w Q :=
  .of_step hE (StepGoal.pure h hf)
theorem stepl_call {E : List Nat} (hE : E.contains i = false) {f : FuncId} {args : Array Value} (h : (execOp a.eval o).run P w = .ok (.enter f args) w)
    (hc : Calls P f args w fun e w' => ∃ v, e = .returned v ∧ Below w.heap.size w w' ∧ fs.getD i anyL_ v w.heap.size w'.heap.size w') : Goal P E (FL fs) i o a w Q :=
  .of_step hE (StepGoal.call h (hc.mono fun _ _ ⟨v, he, hb, hf⟩ => ⟨v, he, hb, hf⟩))

theorem wp_region_stepsl {id : Nat} {ops : List Oper} {a0 : Act} {w0 : World} (n : Nat) (E : List Nat) (fs : List (Value → Nat → Nat → World → Prop)) (hs : StabAllL fs) (hm : P.follows .mixedOrders = true) (hB : headB ops n a0.tmps.size E = true)
    (hQ : ∀ c (d : Nat) v (a : Act) w, Q (.panic c) (a.put (some d) v) w → Q (.panic c) a w)
    (hstep : Steps P ops n E (FL fs) a0 w0 Q (ops.take n) 0)
    (htail : ∀ vs w lo hi, Done ops n a0 w0.drew (FL fs) vs w lo hi → wpList P ops.toArray Q (ops.drop n) { tmps := putAll ops vs n a0.tmps, defers := a0.defers } w) :
    (Code.region id ops.toArray true).wp P Q a0 w0 := by
  refine wp_region_plan n E (FL fs) hm hB hQ (fun i v lo hi w w' h h1 h2 => hs.get i v lo hi w w' h h1 h2) (fun i o hi ho a w h1 h2 h3 => ?_) htail
  have := Steps.get (ops.take n) 0 hstep i o (by rw [List.getElem?_take, if_pos hi]; exact ho) a w h1 h2 h3
  simpa [Goal] using this
end
end Go.Proofs.Ytlnfcjaempojgaa.Plan
