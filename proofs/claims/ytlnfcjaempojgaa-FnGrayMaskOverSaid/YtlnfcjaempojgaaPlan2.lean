/- The rule for drawn regions at operations that leave known values, and at allocations. -/
import Derived.Test.YtlnfcjaempojgaaPlan
namespace Go.Proofs.Ytlnfcjaempojgaa.Plan
open Go Go.RowKit

/-- Operation i leaves cs[i]; but those of al make a new block of cells, and leave its address. -/
def FC (cs : List Value) (al : List (Nat × TypeId × Array Value)) : Nat → Value → Nat → Nat → World → Prop := fun i v lo hi w =>
  match al.lookup i with
  | some (t, zs) => v = .pointer (some ⟨lo, 0, none⟩) ∧ hi = lo + 1 ∧ w.heap[lo]? = some (.cells zs t (0, 0))
  | none => v = cs.getD i undef

theorem FC_stab (cs : List Value) (al : List (Nat × TypeId × Array Value)) : ∀ i v lo hi w w', FC cs al i v lo hi w → hi ≤ w.heap.size → Below w.heap.size w w' → FC cs al i v lo hi w' := by
  intro i v lo hi w w' h hle hb
  unfold FC at *
  split at h
  · obtain ⟨h1, h2, h3⟩ := h
    exact ⟨h1, h2, (hb.block lo (by omega)).trans h3⟩
  · exact h


theorem dep_const {cs : List Value} {al : List (Nat × TypeId × Array Value)} {i b : Nat} {v : Value} {w : World} (hl : al.lookup i = none) (h : ∃ lo hi, b ≤ lo ∧ hi ≤ w.heap.size ∧ FC cs al i v lo hi w) : v = cs.getD i undef := by
  obtain ⟨lo, hi, _, _, h⟩ := h
  unfold FC at h
  rw [hl] at h
  exact h

section
variable {P : Program} {cs : List Value} {al : List (Nat × TypeId × Array Value)} {i : Nat} {o : Oper} {a : Act} {w : World} {Q : Exit → Act → World → Prop}
/-- The obligation at operation i. -/
def Goal (P : Program) (E : List Nat) (F : Nat → Value → Nat → Nat → World → Prop) (i : Nat) (o : Oper) (a : Act) (w : World) (Q : Exit → Act → World → Prop) : Prop :=
  if E.contains i = true then EagerGoal P F i o a else StepGoal P F i o a w Q
theorem Goal.of_step {E : List Nat} {F : Nat → Value → Nat → Nat → World → Prop} (hE : E.contains i = false) (h : StepGoal P F i o a w Q) : Goal P E F i o a w Q := by
  unfold Goal; rw [if_neg (by rw [hE]; exact Bool.false_ne_true)]; exact h
theorem step_eager {E : List Nat} (hE : E.contains i = true) (hl : al.lookup i = none) (h : ∀ w, (execOp a.eval o).run P w = .ok (.value (cs.getD i undef)) w) : Goal P E (FC cs al) i o a w Q := by
  unfold Goal; rw [if_pos hE]
  exact ⟨_, h, fun w => by unfold FC; rw [hl]⟩
theorem step_const {E : List Nat} (hE : E.contains i = false) (hl : al.lookup i = none) (h : (execOp a.eval o).run P w = .ok (.value (cs.getD i undef)) w) : Goal P E (FC cs al) i o a w Q :=
  .of_step hE (StepGoal.pure h (by unfold FC; rw [hl]))

theorem step_alloc {E : List Nat} (hE : E.contains i = false) {t : TypeId} {zs : Array Value} (hl : al.lookup i = some (t, zs)) (h : (execOp a.eval o).run P w = .ok (.value (.pointer (some ⟨w.heap.size, 0, none⟩))) (w.alloc (.cells zs t))) : Goal P E (FC cs al) i o a w Q :=
  .of_step hE (StepGoal.value h ((Below.refl _ _).alloc (Nat.le_refl _) _) (by unfold FC; rw [hl]; exact ⟨rfl, by simp, heap_alloc_new w _⟩))

theorem step_call {E : List Nat} (hE : E.contains i = false) (hl : al.lookup i = none) {f : FuncId} {args : Array Value} (h : (execOp a.eval o).run P w = .ok (.enter f args) w)
    (hc : Calls P f args w fun e w' => e = .returned (cs.getD i undef) ∧ Below w.heap.size w w') : Goal P E (FC cs al) i o a w Q :=
  .of_step hE (StepGoal.call h (hc.mono fun _ _ ⟨he, hb⟩ => ⟨_, he, hb, by unfold FC; rw [hl]⟩))

theorem ev' {a : Act} {k : Nat} {v : Value} (h : a.tmps[k]?.getD undef = v) : a.eval (.tmp k) = v := by show a.tmps.getD k undef = v; rw [Array.getD_eq_getD_getElem?]; exact h
theorem putAll_zero (ops : List Oper) (vs : Nat → Value) (t : Array Value) : putAll ops vs 0 t = t := rfl
theorem ev {a : Act} {k : Nat} {v : Value} (h : a.tmps.getD k undef = v) : a.tmps[k]?.getD undef = v := by rw [← Array.getD_eq_getD_getElem?]; exact h
theorem eval_tmp (a : Act) (k : Nat) : a.eval (.tmp k) = a.tmps.getD k undef := rfl

/-- The obligations one by one. -/
def Steps (P : Program) (ops : List Oper) (n : Nat) (E : List Nat) (F : Nat → Value → Nat → Nat → World → Prop) (a0 : Act) (w0 : World) (Q : Exit → Act → World → Prop) : List Oper → Nat → Prop
  | [], _ => True
  | o :: r, i => (∀ (a : Act) (w : World), (∀ k, ((List.range n).all fun j => decide (dstOf ops j ≠ k)) = true → a.tmps.getD k undef = a0.tmps.getD k undef) →
      (∀ j, (o.after.any fun e => Region.binds .any e && e.on == j) = true → ∃ lo hi, w0.heap.size ≤ lo ∧ hi ≤ w.heap.size ∧ F j (a.tmps.getD (dstOf ops j) undef) lo hi w) → Below w0.heap.size w0.drew w → Goal P E F i o a w Q) ∧ Steps P ops n E F a0 w0 Q r (i + 1)

theorem Steps.get {ops : List Oper} {n : Nat} {E : List Nat} {F : Nat → Value → Nat → Nat → World → Prop} {a0 : Act} {w0 : World} : ∀ (l : List Oper) (k : Nat), Steps P ops n E F a0 w0 Q l k → ∀ j o, l[j]? = some o →
    ∀ (a : Act) (w : World), (∀ k, (∀ j, j < n → dstOf ops j ≠ k) → a.tmps.getD k undef = a0.tmps.getD k undef) →
      (∀ e ∈ o.after, Region.binds .any e = true → ∃ lo hi, w0.heap.size ≤ lo ∧ hi ≤ w.heap.size ∧ F e.on (a.tmps.getD (dstOf ops e.on) undef) lo hi w) → Below w0.heap.size w0.drew w → Goal P E F (k + j) o a w Q
  | [], _, _, j, o, h => by simp at h
  | x :: r, k, hS, j, o, h => by
    cases j with
    | zero =>
      have hx : x = o := by simpa using h
      subst hx
      intro a w hold hdep hb
      refine hS.1 a w (fun k hk => hold k fun j hj => ?_) (fun j hj => ?_) hb
      · have := List.all_eq_true.1 hk j (List.mem_range.2 hj)
        simpa using this
      · obtain ⟨e, he, hb⟩ := Array.any_eq_true'.1 hj
        simp only [Bool.and_eq_true, beq_iff_eq] at hb
        have := hdep e he hb.1
        rwa [hb.2] at this
    | succ j =>
      have := Steps.get r (k + 1) hS.2 j o (by simpa using h)
      rw [show k + (j + 1) = k + 1 + j by omega]
      exact this

theorem wp_region_steps {id : Nat} {ops : List Oper} {a0 : Act} {w0 : World} (n : Nat) (E : List Nat) (cs : List Value) (al : List (Nat × TypeId × Array Value)) (hm : P.follows .mixedOrders = true) (hB : headB ops n a0.tmps.size E = true)
    (hQ : ∀ c (d : Nat) v (a : Act) w, Q (.panic c) (a.put (some d) v) w → Q (.panic c) a w)
    (hstep : Steps P ops n E (FC cs al) a0 w0 Q (ops.take n) 0)
    (htail : ∀ vs w lo hi, Done ops n a0 w0.drew (FC cs al) vs w lo hi → wpList P ops.toArray Q (ops.drop n) { tmps := putAll ops vs n a0.tmps, defers := a0.defers } w) :
    (Code.region id ops.toArray true).wp P Q a0 w0 := by
  refine wp_region_plan n E (FC cs al) hm hB hQ (FC_stab cs al) (fun i o hi ho a w h1 h2 h3 => ?_) htail
  have := Steps.get (ops.take n) 0 hstep i o (by rw [List.getElem?_take, if_pos hi]; exact ho) a w h1 h2 h3
  simpa [Goal] using this

/-! The same where an operation leaves a value of which a predicate is known. -/
def Stable (f : Value → World → Prop) : Prop := ∀ v w w', f v w → Below w.heap.size w w' → f v w'
theorem st_const (c : Value) : Stable (fun v _ => v = c) := fun _ _ _ h _ => h
def StabAll : List (Value → World → Prop) → Prop
  | [] => True
  | f :: r => Stable f ∧ StabAll r
def any_ : Value → World → Prop := fun _ _ => True
theorem StabAll.get : ∀ {fs : List (Value → World → Prop)}, StabAll fs → ∀ i, Stable (fs.getD i any_)
  | [], _, i => by intro v w w' _ _; simp [any_]
  | f :: r, h, i => by
    cases i with
    | zero => exact h.1
    | succ i => simpa using StabAll.get h.2 i

def FG (fs : List (Value → World → Prop)) (al : List (Nat × TypeId × Array Value)) : Nat → Value → Nat → Nat → World → Prop := fun i v lo hi w =>
  match al.lookup i with
  | some (t, zs) => v = .pointer (some ⟨lo, 0, none⟩) ∧ hi = lo + 1 ∧ w.heap[lo]? = some (.cells zs t (0, 0))
  | none => fs.getD i any_ v w

theorem FG_stab {fs : List (Value → World → Prop)} (hs : StabAll fs) (al : List (Nat × TypeId × Array Value)) : ∀ i v lo hi w w', FG fs al i v lo hi w → hi ≤ w.heap.size → Below w.heap.size w w' → FG fs al i v lo hi w' := by
  intro i v lo hi w w' h hle hb
  unfold FG at *
  split at h
  · obtain ⟨h1, h2, h3⟩ := h
    exact ⟨h1, h2, (hb.block lo (by omega)).trans h3⟩
  · exact hs.get i _ _ _ h hb

theorem dep_g {fs : List (Value → World → Prop)} {al : List (Nat × TypeId × Array Value)} {i b : Nat} {v : Value} {w : World} (hl : al.lookup i = none) (h : ∃ lo hi, b ≤ lo ∧ hi ≤ w.heap.size ∧ FG fs al i v lo hi w) : fs.getD i any_ v w := by
  obtain ⟨lo, hi, _, _, h⟩ := h
  unfold FG at h
  rw [hl] at h
  exact h

section
variable {fs : List (Value → World → Prop)}
theorem stepg_pure {E : List Nat} (hE : E.contains i = false) (hl : al.lookup i = none) (v : Value) (h : (execOp a.eval o).run P w = .ok (.value v) w) (hf : fs.getD i any_ v w) : Goal P E (FG fs al) i o a w Q :=
  .of_step hE (StepGoal.pure h (by unfold FG; rw [hl]; exact hf))
theorem stepg_alloc {E : List Nat} (hE : E.contains i = false) {t : TypeId} {zs : Array Value} (hl : al.lookup i = some (t, zs)) (h : (execOp a.eval o).run P w = .ok (.value (.pointer (some ⟨w.heap.size, 0, none⟩))) (w.alloc (.cells zs t))) : Goal P E (FG fs al) i o a w Q :=
  .of_step hE (StepGoal.value h ((Below.refl _ _).alloc (Nat.le_refl _) _) (by unfold FG; rw [hl]; exact ⟨rfl, by simp, heap_alloc_new w _⟩))
theorem stepg_call {E : List Nat} (hE : E.contains i = false) (hl : al.lookup i = none) {f : FuncId} {args : Array Value} (h : (execOp a.eval o).run P w = .ok (.enter f args) w)
    (hc : Calls P f args w fun e w' => ∃ v, e = .returned v ∧ Below w.heap.size w w' ∧ fs.getD i any_ v w') : Goal P E (FG fs al) i o a w Q :=
  .of_step hE (StepGoal.call h (hc.mono fun _ _ ⟨v, he, hb, hf⟩ => ⟨v, he, hb, by unfold FG; rw [hl]; exact hf⟩))

theorem wp_region_stepsg {id : Nat} {ops : List Oper} {a0 : Act} {w0 : World} (n : Nat) (E : List Nat) (fs : List (Value → World → Prop)) (al : List (Nat × TypeId × Array Value)) (hs : StabAll fs) (hm : P.follows .mixedOrders = true) (hB : headB ops n a0.tmps.size E = true)
    (hQ : ∀ c (d : Nat) v (a : Act) w, Q (.panic c) (a.put (some d) v) w → Q (.panic c) a w)
    (hstep : Steps P ops n E (FG fs al) a0 w0 Q (ops.take n) 0)
    (htail : ∀ vs w lo hi, Done ops n a0 w0.drew (FG fs al) vs w lo hi → wpList P ops.toArray Q (ops.drop n) { tmps := putAll ops vs n a0.tmps, defers := a0.defers } w) :
    (Code.region id ops.toArray true).wp P Q a0 w0 := by
  refine wp_region_plan n E (FG fs al) hm hB hQ (FG_stab hs al) (fun i o hi ho a w h1 h2 h3 => ?_) htail
  have := Steps.get (ops.take n) 0 hstep i o (by rw [List.getElem?_take, if_pos hi]; exact ho) a w h1 h2 h3
  simpa [Goal] using this
end
end
end Go.Proofs.Ytlnfcjaempojgaa.Plan
