/- A rule for a region that draws its order and holds calls and allocations beside reads: each operation of its head is shown by itself, from what the operations that it waits for have left; the tail, whose order is forced, is walked once behind all of them. Nothing of the program is used here. -/
import Derived.StillTail
import Derived.WalkKit
namespace Go.Proofs.Ytlnfcjaempojgaa.Plan
open Go Go.RowKit

def dstOf (ops : List Oper) (i : Nat) : Nat := ((ops[i]?).bind (·.dst)).getD 0

def opB (ops : List Oper) (size i : Nat) : Bool :=
  match ops[i]? with
  | some o => o.guard.isNone && (match o.dst with | some d => decide (d < size) | none => false) && (o.after.all fun e => !Region.binds .any e || decide (e.on < i))
  | none => false

def listedHead (n g : Nat) : Array Bool := (List.replicate n true ++ List.replicate g false).toArray

/-- What operation i waits for. -/
def predsB (ops : Array Oper) (i : Nat) : Array Bool :=
  ((List.range ops.size).map fun j => match ops[i]? with
    | some o => o.after.any fun e => Region.binds .any e && decide (e.on = j)
    | none => false).toArray

/-- The closed facts that are asked of the region. E: the operations of the head that only reckon: they are taken as soon as they may come up. -/
def headB (ops : List Oper) (n size : Nat) (E : List Nat) : Bool :=
  decide (n < ops.length) && Region.noSelect ops.toArray && Region.chainB .any ops.toArray n &&
  ((List.range n).all fun i => opB ops size i) &&
  ((List.range n).all fun i => (List.range n).all fun j => decide (i = j) || decide (dstOf ops i ≠ dstOf ops j)) &&
  ((List.range n).all fun i => E.contains i || (List.range (n + 1)).any fun j => decide (i < j) && Region.waitsFor .any ops.toArray j i && (decide (j = n) || !E.contains j)) &&
  (E.all fun i => Region.free .any ops.toArray (predsB ops.toArray i) i) &&
  Region.seqB .any ops.toArray (ops.length - n) n (listedHead n (ops.length - n))

/-- One operation, run to its end: it leaves v in its slot, and turns nothing that was there. -/
def StepGoal (P : Program) (F : Nat → Value → Nat → Nat → World → Prop) (i : Nat) (o : Oper) (a : Act) (w : World) (Q : Exit → Act → World → Prop) : Prop :=
  o.wp P a w (fun a' w' => ∃ v, a' = a.put o.dst v ∧ Below w.heap.size w w' ∧ F i v w.heap.size w'.heap.size w') Q

theorem StepGoal.value {P : Program} {F : Nat → Value → Nat → Nat → World → Prop} {i : Nat} {o : Oper} {a : Act} {w w' : World} {Q : Exit → Act → World → Prop} {v : Value}
    (h : (execOp a.eval o).run P w = .ok (.value v) w') (hb : Below w.heap.size w w') (hF : F i v w.heap.size w'.heap.size w') : StepGoal P F i o a w Q := by
  unfold StepGoal Oper.wp
  rw [h]
  exact ⟨v, rfl, hb, hF⟩

theorem StepGoal.pure {P : Program} {F : Nat → Value → Nat → Nat → World → Prop} {i : Nat} {o : Oper} {a : Act} {w : World} {Q : Exit → Act → World → Prop} {v : Value}
    (h : (execOp a.eval o).run P w = .ok (.value v) w) (hF : F i v w.heap.size w.heap.size w) : StepGoal P F i o a w Q := StepGoal.value h (Below.refl _ _) hF

theorem StepGoal.call {P : Program} {F : Nat → Value → Nat → Nat → World → Prop} {i : Nat} {o : Oper} {a : Act} {w : World} {Q : Exit → Act → World → Prop} {f : FuncId} {args : Array Value}
    (h : (execOp a.eval o).run P w = .ok (.enter f args) w)
    (hc : Calls P f args w fun e w' => ∃ v, e = .returned v ∧ Below w.heap.size w w' ∧ F i v w.heap.size w'.heap.size w') : StepGoal P F i o a w Q := by
  unfold StepGoal Oper.wp
  rw [h]
  refine Calls.mono hc ?_
  rintro e w' ⟨v, rfl, hb, hF⟩
  exact ⟨v, rfl, hb, hF⟩

structure Inv (ops : List Oper) (n : Nat) (a0 : Act) (w0 : World) (F : Nat → Value → Nat → Nat → World → Prop) (listed : Array Bool) (a : Act) (w : World) (lo hi : Nat → Nat) : Prop where
  head : HeadInv .any ops.toArray n listed
  dfr : a.defers = a0.defers
  sz : a.tmps.size = a0.tmps.size
  old : ∀ k, (∀ i, i < n → listed.getD i false = true → dstOf ops i ≠ k) → a.tmps.getD k undef = a0.tmps.getD k undef
  bel : Below w0.heap.size w0 w
  facts : ∀ i, i < n → listed.getD i false = true → w0.heap.size ≤ lo i ∧ lo i ≤ hi i ∧ hi i ≤ w.heap.size ∧ F i (a.tmps.getD (dstOf ops i) undef) (lo i) (hi i) w
  apart : ∀ i j, i < n → j < n → listed.getD i false = true → listed.getD j false = true → i ≠ j → hi i ≤ lo j ∨ hi j ≤ lo i

theorem getD_put_ne {a : Act} {d k : Nat} {v : Value} (h : d ≠ k) : (a.put (some d) v).tmps.getD k undef = a.tmps.getD k undef := by
  simp [Act.put, Array.getElem?_setIfInBounds_ne h]
theorem getD_put_eq {a : Act} {d : Nat} {v : Value} (h : d < a.tmps.size) : (a.put (some d) v).tmps.getD d undef = v := by
  simp [Act.put, h]

section
variable {P : Program} {ops : List Oper} {Q : Exit → Act → World → Prop} {a0 : Act} {w0 : World} {n : Nat} {F : Nat → Value → Nat → Nat → World → Prop}

theorem opB_spec {size i : Nat} (h : opB ops size i = true) : ∃ o d, ops[i]? = some o ∧ o.guard = none ∧ o.dst = some d ∧ d < size ∧ (∀ e ∈ o.after, Region.binds .any e = true → e.on < i) ∧ dstOf ops i = d := by
  unfold opB at h
  cases ho : ops[i]? with
  | none => rw [ho] at h; simp at h
  | some o =>
    rw [ho] at h
    simp only [Bool.and_eq_true] at h
    obtain ⟨⟨h1, h2⟩, h3⟩ := h
    cases hd : o.dst with
    | none => rw [hd] at h2; simp at h2
    | some d =>
      rw [hd] at h2
      refine ⟨o, d, rfl, by simpa using h1, hd, by simpa using h2, fun e he hb => ?_, by simp [dstOf, ho, hd]⟩
      have := Array.all_eq_true'.1 h3 e he
      simpa [hb] using this

theorem listed_all {listed : Array Bool} (hn : n < ops.length) (hs : listed.size = ops.toArray.size) (hh : ∀ i, i < n → listed.getD i false = true) (ht : ∀ t, n ≤ t → t < ops.toArray.size → listed.getD t true = false) :
    listed = listedHead n (ops.length - n) := by
  have hs' : listed.size = ops.length := by simpa using hs
  obtain ⟨l⟩ := listed
  unfold listedHead
  congr 1
  simp only [List.size_toArray] at hs'
  refine List.ext_getElem (by simp [hs']; omega) fun i h1 h2 => ?_
  by_cases hi : i < n
  · have := hh i hi
    simp [h1] at this
    rw [this, List.getElem_append_left (by simpa using hi)]
    simp
  · have := ht i (by omega) (by simpa using (by omega : i < ops.length))
    simp [h1] at this
    rw [this, List.getElem_append_right (by simpa using hi)]
    simp

/-- What holds behind the whole head. -/
structure Done (ops : List Oper) (n : Nat) (a0 : Act) (w0 : World) (F : Nat → Value → Nat → Nat → World → Prop) (vs : Nat → Value) (w : World) (lo hi : Nat → Nat) : Prop where
  bel : Below w0.heap.size w0 w
  facts : ∀ i, i < n → w0.heap.size ≤ lo i ∧ lo i ≤ hi i ∧ hi i ≤ w.heap.size ∧ F i (vs i) (lo i) (hi i) w
  apart : ∀ i j, i < n → j < n → i ≠ j → hi i ≤ lo j ∨ hi j ≤ lo i

def putAll (ops : List Oper) (vs : Nat → Value) : Nat → Array Value → Array Value
  | 0, t => t
  | n + 1, t => (putAll ops vs n t).setIfInBounds (dstOf ops n) (vs n)

theorem size_putAll (vs : Nat → Value) (t : Array Value) : ∀ n, (putAll ops vs n t).size = t.size
  | 0 => rfl
  | n + 1 => by simp [putAll, size_putAll vs t n]

theorem getD_putAll (vs : Nat → Value) (t : Array Value) (k : Nat) : ∀ n, (∀ i, i < n → dstOf ops i < t.size) → (∀ i j, i < n → j < n → i ≠ j → dstOf ops i ≠ dstOf ops j) →
    ((∀ i, i < n → dstOf ops i ≠ k) → (putAll ops vs n t).getD k undef = t.getD k undef) ∧ ∀ i, i < n → dstOf ops i = k → (putAll ops vs n t).getD k undef = vs i
  | 0, _, _ => ⟨fun _ => rfl, fun i h => absurd h (by omega)⟩
  | n + 1, hd, hne => by
    obtain ⟨h1, h2⟩ := getD_putAll vs t k n (fun i hi => hd i (by omega)) (fun i j hi hj => hne i j (by omega) (by omega))
    have hsz := size_putAll (ops := ops) vs t n
    refine ⟨fun hk => ?_, fun i hi hik => ?_⟩
    · have e := h1 fun i hi => hk i (by omega)
      rw [← e]
      simp [putAll, Array.getElem?_setIfInBounds_ne (hk n (by omega))]
    · by_cases hin : i = n
      · subst hin
        subst hik
        simp [putAll, hsz, hd i (by omega)]
      · have e := h2 i (by omega) hik
        rw [← e]
        have : dstOf ops n ≠ k := fun h => hne i n (by omega) (by omega) hin (hik.trans h.symm)
        simp [putAll, Array.getElem?_setIfInBounds_ne this]

/-- An operation that only reckons: it leaves v in whatever world. -/
def EagerGoal (P : Program) (F : Nat → Value → Nat → Nat → World → Prop) (i : Nat) (o : Oper) (a : Act) : Prop :=
  ∃ v, (∀ w, (execOp a.eval o).run P w = .ok (.value v) w) ∧ ∀ w : World, F i v w.heap.size w.heap.size w

/-- THE RULE. -/
theorem wp_region_plan {id : Nat} (n : Nat) (E : List Nat) (F : Nat → Value → Nat → Nat → World → Prop) (hm : P.follows .mixedOrders = true) (hB : headB ops n a0.tmps.size E = true)
    (hQ : ∀ c (d : Nat) v (a : Act) w, Q (.panic c) (a.put (some d) v) w → Q (.panic c) a w)
    (hstab : ∀ i v lo hi w w', F i v lo hi w → hi ≤ w.heap.size → Below w.heap.size w w' → F i v lo hi w')
    (hstep : ∀ i o, i < n → ops[i]? = some o → ∀ (a : Act) (w : World), (∀ k, (∀ j, j < n → dstOf ops j ≠ k) → a.tmps.getD k undef = a0.tmps.getD k undef) →
      (∀ e ∈ o.after, Region.binds .any e = true → ∃ lo hi, w0.heap.size ≤ lo ∧ hi ≤ w.heap.size ∧ F e.on (a.tmps.getD (dstOf ops e.on) undef) lo hi w) → Below w0.heap.size w0.drew w →
      if E.contains i = true then EagerGoal P F i o a else StepGoal P F i o a w Q)
    (htail : ∀ vs w lo hi, Done ops n a0 w0.drew F vs w lo hi → wpList P ops.toArray Q (ops.drop n) { tmps := putAll ops vs n a0.tmps, defers := a0.defers } w) :
    (Code.region id ops.toArray true).wp P Q a0 w0 := by
  simp only [headB, Bool.and_eq_true, decide_eq_true_eq] at hB
  obtain ⟨⟨⟨⟨⟨⟨⟨hn, hsel⟩, hchain⟩, hops⟩, hdst⟩, hsink⟩, hfree⟩, hseq⟩ := hB
  have hop : ∀ i, i < n → opB ops a0.tmps.size i = true := fun i hi => List.all_eq_true.1 hops i (List.mem_range.2 hi)
  have hne : ∀ i j, i < n → j < n → i ≠ j → dstOf ops i ≠ dstOf ops j := fun i j hi hj hij => by
    have := List.all_eq_true.1 (List.all_eq_true.1 hdst i (List.mem_range.2 hi)) j (List.mem_range.2 hj)
    simpa [hij] using this
  have hn' : n < ops.toArray.size := by simpa using hn
  have hlen : ops.toArray.size = n + (ops.length - n) := by simp; omega
  refine wp_region_any hm ?_
  have key : ∀ (m : Nat) (listed : Array Bool) (a : Act) (w : World) (lo hh : Nat → Nat), ((List.range n).filter fun i => !listed.getD i false).length = m →
      Inv ops n a0 w0.drew F listed a w lo hh → wpAny P .any ops.toArray Q (m + (ops.length - n)) listed a w := by
    intro m
    induction m with
    | zero =>
      intro listed a w lo hh hcount inv
      have hall : ∀ i, i < n → listed.getD i false = true := fun i hi => by
        have h0 := List.eq_nil_of_length_eq_zero hcount
        have := List.filter_eq_nil_iff.1 h0 i (List.mem_range.2 hi)
        simpa using this
      have hL := listed_all hn inv.head.size hall inv.head.tail
      have ha : a = { tmps := putAll ops (fun i => a.tmps.getD (dstOf ops i) undef) n a0.tmps, defers := a0.defers } := by
        obtain ⟨tm, df⟩ := a
        have hdf := inv.dfr
        simp only at hdf
        subst hdf
        congr 1
        have hsz := inv.sz
        simp only at hsz
        refine Array.ext (by rw [size_putAll]; exact hsz) fun k h1 h2 => ?_
        obtain ⟨g1, g2⟩ := getD_putAll (ops := ops) (fun i => tm.getD (dstOf ops i) undef) a0.tmps k n (fun i hi => by
          obtain ⟨o, d, _, _, _, hlt, _, hd⟩ := opB_spec (hop i hi)
          rw [hd]; exact hlt) hne
        have e1 : tm[k] = tm.getD k undef := by simp [h1]
        have e2 : ∀ t : Array Value, (h : k < t.size) → t[k] = t.getD k undef := fun t h => by simp [h]
        rw [e1, e2 _ h2]
        by_cases hk : ∀ i, i < n → dstOf ops i ≠ k
        · rw [g1 hk]
          exact inv.old k (fun i hi _ => hk i hi)
        · have ⟨i, hi⟩ := Classical.not_forall.1 hk
          have ⟨hin, hik⟩ := Classical.not_imp.1 hi
          have hik : dstOf ops i = k := Classical.not_not.1 hik
          rw [g2 i hin hik, hik]
      have hT := htail (fun i => a.tmps.getD (dstOf ops i) undef) w lo hh ⟨inv.bel, fun i hi => inv.facts i hi (hall i hi), fun i j hi hj hij => inv.apart i j hi hj (hall i hi) (hall j hj) hij⟩
      rw [← ha] at hT
      rw [hL]
      have := wpAny_of_seq (md := .any) (Q' := Q) (ops := ops.toArray) (ops.drop n) n (listedHead n (ops.length - n)) a w (fun j => by simp [List.getElem?_drop]) (by simpa using hseq) hT
      simpa using this
    | succ m ih =>
      intro listed a w lo hh hcount inv
      -- the least one that has not come up is ready
      have hex : ∃ i, i < n ∧ listed.getD i false = false := by
        cases hl : (List.range n).filter fun i => !listed.getD i false with
        | nil => rw [hl] at hcount; simp at hcount
        | cons i r =>
          have : i ∈ (List.range n).filter fun i => !listed.getD i false := by rw [hl]; exact List.mem_cons_self ..
          obtain ⟨h1, h2⟩ := List.mem_filter.1 this
          exact ⟨i, List.mem_range.1 h1, by simpa using h2⟩
      obtain ⟨i0, hi0, hu0⟩ := hex
      have hlt : ∀ i, i < n → i < listed.size := fun i hi => by rw [inv.head.size]; omega
      have hready : Region.ready .any ops.toArray listed ≠ [] := by
        have hmin : ∀ k, (∃ i, i ≤ k ∧ i < n ∧ listed.getD i false = false) → ∃ i, i < n ∧ listed.getD i false = false ∧ ∀ j, j < i → listed.getD j false = true := by
          intro k
          induction k using Nat.strongRecOn with
          | _ k ihk =>
            rintro ⟨i, hik, hin, hiu⟩
            by_cases hall : ∀ j, j < i → listed.getD j false = true
            · exact ⟨i, hin, hiu, hall⟩
            · have ⟨j, hj⟩ := Classical.not_forall.1 hall
              have ⟨hj1, hj2⟩ := Classical.not_imp.1 hj
              exact ihk j (by omega) ⟨j, Nat.le_refl _, by omega, by simpa using hj2⟩
        obtain ⟨i, hin, hiu, hall⟩ := hmin i0 ⟨i0, Nat.le_refl _, hi0, hu0⟩
        obtain ⟨o, d, ho, _, _, _, hed, _⟩ := opB_spec (hop i hin)
        have : i ∈ Region.ready .any ops.toArray listed := mem_ready.2 ⟨getD_in (hlt i hin) hiu, o, by simpa using ho, fun e he hb => hall _ (hed e he hb)⟩
        intro h0
        rw [h0] at this
        cases this
      rw [show m + 1 + (ops.length - n) = (m + (ops.length - n)) + 1 by omega]
      -- what is known behind operation i
      have after : ∀ i oi d (v : Value) w', i < n → ops[i]? = some oi → oi.dst = some d → dstOf ops i = d → d < a0.tmps.size → i ∈ Region.ready .any ops.toArray listed → Below w.heap.size w w' → F i v w.heap.size w'.heap.size w' →
          wpAny P .any ops.toArray Q (m + (ops.length - n)) (listed.setIfInBounds i true) (a.put oi.dst v) w' := by
        intro i oi d v w' hin ho hd hdo hdlt hi hb hF
        have hiun' := getD_both (mem_ready.1 hi).1
        have hset : (listed.setIfInBounds i true).getD i false = true := by simp [hlt i hin]
        refine ih (listed.setIfInBounds i true) _ w' (fun j => if j = i then w.heap.size else lo j) (fun j => if j = i then w'.heap.size else hh j) ?_ ?_
        · -- one fewer
          have hnd : (List.range n).Nodup := List.nodup_range
          have hperm : ((List.range n).filter fun j => !listed.getD j false).length = ((List.range n).filter fun j => !(listed.setIfInBounds i true).getD j false).length + 1 := by
            have hcnt : ∀ (l : List Nat), l.Nodup → i ∈ l → (l.filter fun j => !listed.getD j false).length = (l.filter fun j => !(listed.setIfInBounds i true).getD j false).length + 1 := by
              intro l
              induction l with
              | nil => intro _ h; cases h
              | cons x r ihl =>
                intro hnd hmem
                obtain ⟨hx, hr⟩ := List.nodup_cons.1 hnd
                rcases List.mem_cons.1 hmem with rfl | hmem
                · have hsame : r.filter (fun j => !listed.getD j false) = r.filter (fun j => !(listed.setIfInBounds i true).getD j false) := List.filter_congr fun j hj => by
                    rw [getD_set_ne false (fun h => hx (by rw [h]; exact hj))]
                  rw [List.filter_cons_of_pos (by simpa using hiun'), List.filter_cons_of_neg (by rw [hset]; simp), hsame]
                  rfl
                · have hxi : x ≠ i := fun h => hx (h ▸ hmem)
                  have := ihl hr hmem
                  rw [List.filter_cons, List.filter_cons, getD_set_ne false (Ne.symm hxi)]
                  cases hq : listed.getD x false with
                  | true => simpa using this
                  | false => simpa using this
            exact hcnt _ hnd (List.mem_range.2 hin)
          omega
        · refine ⟨inv.head.set hi hin, by simpa [Act.put, hd] using inv.dfr, by simpa [Act.put, hd] using inv.sz, ?_, inv.bel.trans (hb.mono inv.bel.size), ?_, ?_⟩
          · intro k hk
            have hdk : d ≠ k := by rw [← hdo]; exact hk i hin hset
            rw [hd, getD_put_ne hdk]
            exact inv.old k fun j hj hjl => hk j hj (getD_set_true hjl)
          · intro j hj hjl
            by_cases hji : j = i
            · subst hji
              simp only [if_true]
              refine ⟨inv.bel.size, hb.size, Nat.le_refl _, ?_⟩
              rw [hdo, hd, getD_put_eq (by rw [inv.sz]; exact hdlt)]
              exact hF
            · simp only [hji, if_false]
              have hjl' : listed.getD j false = true := by rw [getD_set_ne false (Ne.symm hji)] at hjl; exact hjl
              obtain ⟨f1, f2, f3, f4⟩ := inv.facts j hj hjl'
              refine ⟨f1, f2, Nat.le_trans f3 hb.size, ?_⟩
              rw [hd, getD_put_ne (by rw [← hdo]; exact hne i j hin hj (Ne.symm hji))]
              exact hstab _ _ _ _ _ _ f4 f3 hb
          · intro j k hj hk hjl hkl hjk
            by_cases hji : j = i
            · subst hji
              have hkj : k ≠ j := Ne.symm hjk
              simp only [if_true, hkj, if_false]
              have hkl' : listed.getD k false = true := by rw [getD_set_ne false (Ne.symm hkj)] at hkl; exact hkl
              exact Or.inr (inv.facts k hk hkl').2.2.1
            · have hjl' : listed.getD j false = true := by rw [getD_set_ne false (Ne.symm hji)] at hjl; exact hjl
              by_cases hki : k = i
              · subst hki
                simp only [if_true, hji, if_false]
                exact Or.inl (inv.facts j hj hjl').2.2.1
              · have hkl' : listed.getD k false = true := by rw [getD_set_ne false (Ne.symm hki)] at hkl; exact hkl
                simp only [hji, hki, if_false]
                exact inv.apart j k hj hk hjl' hkl' hjk
      have hfacts : ∀ i oi, i < n → ops[i]? = some oi → i ∈ Region.ready .any ops.toArray listed → if E.contains i = true then EagerGoal P F i oi a else StepGoal P F i oi a w Q := fun i oi hin ho hi => by
        obtain ⟨o, d, ho', hg, hd, hdlt, hed, hdo⟩ := opB_spec (hop i hin)
        obtain rfl : oi = o := Option.some.inj (ho.symm.trans ho')
        obtain ⟨hiun, o2, ho2, hall⟩ := mem_ready.1 hi
        obtain rfl : o2 = oi := by
          have h1 : ops.toArray[i]? = some oi := by simpa using ho
          exact Option.some.inj (ho2.symm.trans h1)
        exact hstep i o2 hin ho a w (fun k hk => inv.old k (fun j hj _ => hk j hj)) (fun e he hb => by
          obtain ⟨f1, f2, f3, f4⟩ := inv.facts e.on (by have := hed e he hb; omega) (hall e he hb)
          exact ⟨_, _, f1, f3, f4⟩) inv.bel
      by_cases heager : ∃ i, i < n ∧ E.contains i = true ∧ i ∈ Region.ready .any ops.toArray listed
      · obtain ⟨i, hin, hiE, hi⟩ := heager
        obtain ⟨o, d, ho, hg, hd, hdlt, hed, hdo⟩ := opB_spec (hop i hin)
        have hS := hfacts i o hin ho hi
        rw [if_pos hiE] at hS
        obtain ⟨v, hrun, hF⟩ := hS
        have ho' : ops.toArray[i]? = some o := by simpa using ho
        have hfr := List.all_eq_true.1 hfree i (by simpa using hiE)
        have hall : ∀ j oj, ops.toArray[j]? = some oj → j ≠ i → listed.getD j true = false → (∀ e ∈ oj.after, Region.binds .any e = true → e.on ≠ i) → o.apart ops.toArray oj = true := fun j oj hj hji hlj hno => by
          refine Region.free_spec ho' hfr j oj hj hji ?_ hno
          have hjlt : j < ops.toArray.size := (Array.getElem?_eq_some_iff.1 hj).1
          have hun : listed.getD j false = false := getD_both hlj
          obtain ⟨_, o3, ho3, hall3⟩ := mem_ready.1 hi
          obtain rfl : o3 = o := Option.some.inj (ho3.symm.trans ho')
          have hfl : (o3.after.any fun e => Region.binds .any e && decide (e.on = j)) = false := by
            cases hc : (o3.after.any fun e => Region.binds .any e && decide (e.on = j)) with
            | false => rfl
            | true =>
              obtain ⟨e, he, hb⟩ := Array.any_eq_true'.1 hc
              simp only [Bool.and_eq_true, decide_eq_true_eq] at hb
              have h4 := hall3 e he hb.1
              rw [hb.2, hun] at h4
              cases h4
          have hsz : (predsB ops.toArray i).size = ops.toArray.size := by simp [predsB]
          have hval : (predsB ops.toArray i).getD j true = false := by
            have hlt3 : j < (predsB ops.toArray i).size := by rw [hsz]; exact hjlt
            have e1 : (predsB ops.toArray i).getD j true = (predsB ops.toArray i)[j] := by simp [hlt3]
            rw [e1]
            simp only [predsB, List.getElem_toArray, List.getElem_map, List.getElem_range, ho']
            exact hfl
          exact hval
        have hw : Region.wanted o (yielded ops.toArray a.tmps) = true := by simp [Region.wanted, hg]
        exact wpAny_first ho' (Region.noSelect_spec hsel) (fun c a w h => by rw [hd] at h; exact hQ _ _ _ _ _ h) _ listed a w hall hi (Or.inl ⟨hw, hrun⟩) (after i o d v w hin ho hd hdo hdlt hi (Below.refl _ _) (hF w))
      refine ⟨fun h0 => absurd h0 hready, fun i hi => ?_⟩
      have hin : i < n := by
        rcases Nat.lt_or_ge i n with h | h
        · exact h
        · exfalso
          obtain ⟨hiun, oi, hoi, hall⟩ := mem_ready.1 hi
          have hilt : i < ops.toArray.size := (Array.getElem?_eq_some_iff.1 hoi).1
          by_cases hie : i = n
          · subst hie
            -- all but the eager ones have come up
            have hdone' : ∀ d j, i - j = d → j < i → E.contains j = false → listed.getD j false = true := by
              intro d
              induction d using Nat.strongRecOn with
              | _ d ihd =>
                intro j hjd hj hjE
                have h1 := List.all_eq_true.1 hsink j (List.mem_range.2 hj)
                rw [hjE, Bool.false_or] at h1
                obtain ⟨k, hk, hk2⟩ := List.any_eq_true.1 h1
                simp only [Bool.and_eq_true, decide_eq_true_eq, Bool.or_eq_true, Bool.not_eq_true'] at hk2
                obtain ⟨⟨hjk, hwt⟩, hkn⟩ := hk2
                obtain ⟨o', ho', e, he, hb, hon⟩ := Region.waitsFor_spec hwt
                have hki : k ≤ i := by have := List.mem_range.1 hk; omega
                by_cases hke : k = i
                · subst hke
                  obtain rfl : o' = oi := Option.some.inj (ho'.symm.trans hoi)
                  have := hall e he hb
                  rwa [hon] at this
                · have hkE : E.contains k = false := by
                    rcases hkn with h | h
                    · exact absurd h hke
                    · exact h
                  have hkl := ihd (i - k) (by omega) k rfl (by omega) hkE
                  have := inv.head.closed k o' ho' hkl e he hb
                  rwa [hon] at this
            have hdone : ∀ j, j < i → E.contains j = false → listed.getD j false = true := fun j => hdone' _ j rfl
            have hleast : ∀ k, (∃ j, j ≤ k ∧ j < i ∧ listed.getD j false = false) → ∃ j, j < i ∧ listed.getD j false = false ∧ ∀ x, x < j → listed.getD x false = true := by
              intro k
              induction k using Nat.strongRecOn with
              | _ k ihk =>
                rintro ⟨j, hjk, hjn, hju⟩
                by_cases hallx : ∀ x, x < j → listed.getD x false = true
                · exact ⟨j, hjn, hju, hallx⟩
                · have ⟨x, hx⟩ := Classical.not_forall.1 hallx
                  have ⟨hx1, hx2⟩ := Classical.not_imp.1 hx
                  exact ihk x (by omega) ⟨x, Nat.le_refl _, by omega, by simpa using hx2⟩
            obtain ⟨j, hjn, hju, hjall⟩ := hleast i0 ⟨i0, Nat.le_refl _, hi0, hu0⟩
            obtain ⟨oj, d, hoj, _, _, _, hed, _⟩ := opB_spec (hop j hjn)
            have hjE : E.contains j = true := by
              cases hc : E.contains j with
              | true => rfl
              | false => rw [hdone j hjn hc] at hju; cases hju
            exact heager ⟨j, hjn, hjE, mem_ready.2 ⟨getD_in (hlt j hjn) hju, oj, by simpa using hoj, fun e he hb => hjall _ (hed e he hb)⟩⟩
          · have h1 := List.all_eq_true.1 hchain i (List.mem_range.2 hilt)
            simp only [Bool.or_eq_true, decide_eq_true_eq] at h1
            rcases h1 with h1 | h1
            · omega
            · obtain ⟨o', ho', e, he, hb, hon⟩ := Region.waitsFor_spec h1
              obtain rfl : o' = oi := Option.some.inj (ho'.symm.trans hoi)
              have h2 := hall e he hb
              rw [hon, getD_both (inv.head.tail (i - 1) (by omega) (by omega))] at h2
              cases h2
      obtain ⟨o, d, ho, hg, hd, hdlt, hed, hdo⟩ := opB_spec (hop i hin)
      have hoi : ops.toArray[i]? = some o := by simpa using ho
      have hS := hfacts i o hin ho hi
      rw [if_neg (fun hE => heager ⟨i, hin, hE, hi⟩)] at hS
      unfold wpOp
      simp only [hoi]
      have hw : Region.wanted o (yielded ops.toArray a.tmps) = true := by simp [Region.wanted, hg]
      rw [if_pos hw]
      refine .inl (Oper.wp_mono ?_ hS)
      rintro a' w' ⟨v, rfl, hb, hF⟩
      exact after i o d v w' hin ho hd hdo hdlt hi hb hF
  have inv0 : Inv ops n a0 w0.drew F (Array.replicate ops.toArray.size false) a0 w0.drew (fun _ => 0) (fun _ => 0) :=
    ⟨⟨by simp, fun j oj _ hl => (by rw [getD_replicate_false] at hl; cases hl), fun t _ ht => getD_in (by simpa using ht) (getD_replicate_false _ _)⟩, rfl, rfl, fun _ _ => rfl, Below.refl _ _,
      fun i _ hl => (by rw [getD_replicate_false] at hl; cases hl), fun i j _ _ hl => (by rw [getD_replicate_false] at hl; cases hl)⟩
  have hcount : ((List.range n).filter fun i => !(Array.replicate ops.toArray.size false).getD i false).length = n := by
    rw [List.filter_eq_self.2 fun i _ => by rw [getD_replicate_false]; rfl]
    simp
  have := key n _ a0 w0.drew _ _ hcount inv0
  rw [← hlen] at this
  exact this
end
#print axioms wp_region_plan
end Go.Proofs.Ytlnfcjaempojgaa.Plan
