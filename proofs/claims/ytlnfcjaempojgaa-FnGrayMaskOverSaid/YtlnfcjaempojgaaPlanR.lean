/- The rule of Plan once more, where of an operation's value a relation to the value of an operation that it waits for (par) may be known. Written by mk_PlanR.py. -/
import Derived.Test.YtlnfcjaempojgaaPlan3
namespace Go.Proofs.Ytlnfcjaempojgaa.Plan
open Go Go.RowKit

def vpar (n : Nat) (par : Nat → Nat) (g : Nat → Value) (i : Nat) : Value := if par i < n then g (par i) else undef
def parB (ops : Array Oper) (n : Nat) (par : Nat → Nat) : Bool := (List.range n).all fun i => !decide (par i < n) || Region.waitsFor .any ops i (par i)

structure InvR (ops : List Oper) (n : Nat) (a0 : Act) (w0 : World) (par : Nat → Nat) (F : Nat → Value → Value → Nat → Nat → World → Prop) (listed : Array Bool) (a : Act) (w : World) (lo hi : Nat → Nat) : Prop where
  head : HeadInv .any ops.toArray n listed
  dfr : a.defers = a0.defers
  sz : a.tmps.size = a0.tmps.size
  old : ∀ k, (∀ i, i < n → listed.getD i false = true → dstOf ops i ≠ k) → a.tmps.getD k undef = a0.tmps.getD k undef
  bel : Below w0.heap.size w0 w
  facts : ∀ i, i < n → listed.getD i false = true → w0.heap.size ≤ lo i ∧ lo i ≤ hi i ∧ hi i ≤ w.heap.size ∧ F i (a.tmps.getD (dstOf ops i) undef) (vpar n par (fun j => a.tmps.getD (dstOf ops j) undef) i) (lo i) (hi i) w
  apart : ∀ i j, i < n → j < n → listed.getD i false = true → listed.getD j false = true → i ≠ j → hi i ≤ lo j ∨ hi j ≤ lo i

section
variable {P : Program} {ops : List Oper} {Q : Exit → Act → World → Prop} {a0 : Act} {w0 : World} {n : Nat} {par : Nat → Nat} {F : Nat → Value → Value → Nat → Nat → World → Prop}

/-- What holds behind the whole head. -/
structure DoneR (ops : List Oper) (n : Nat) (a0 : Act) (w0 : World) (par : Nat → Nat) (F : Nat → Value → Value → Nat → Nat → World → Prop) (vs : Nat → Value) (w : World) (lo hi : Nat → Nat) : Prop where
  bel : Below w0.heap.size w0 w
  facts : ∀ i, i < n → w0.heap.size ≤ lo i ∧ lo i ≤ hi i ∧ hi i ≤ w.heap.size ∧ F i (vs i) (vpar n par vs i) (lo i) (hi i) w
  apart : ∀ i j, i < n → j < n → i ≠ j → hi i ≤ lo j ∨ hi j ≤ lo i

/-- THE RULE. -/
theorem wp_region_rel {id : Nat} (n : Nat) (E : List Nat) (par : Nat → Nat) (F : Nat → Value → Value → Nat → Nat → World → Prop) (hm : P.follows .mixedOrders = true) (hB : headB ops n a0.tmps.size E = true)
    (hpar : parB ops.toArray n par = true)
    (hQ : ∀ c (d : Nat) v (a : Act) w, Q (.panic c) (a.put (some d) v) w → Q (.panic c) a w)
    (hstab : ∀ i v u lo hi w w', F i v u lo hi w → hi ≤ w.heap.size → Below w.heap.size w w' → F i v u lo hi w')
    (hstep : ∀ i o, i < n → ops[i]? = some o → ∀ (a : Act) (w : World), (∀ k, (∀ j, j < n → dstOf ops j ≠ k) → a.tmps.getD k undef = a0.tmps.getD k undef) →
      (∀ e ∈ o.after, Region.binds .any e = true → ∃ lo hi, w0.heap.size ≤ lo ∧ hi ≤ w.heap.size ∧ F e.on (a.tmps.getD (dstOf ops e.on) undef) (vpar n par (fun j => a.tmps.getD (dstOf ops j) undef) e.on) lo hi w) → Below w0.heap.size w0.drew w →
      if E.contains i = true then EagerGoal P (fun i v => F i v (vpar n par (fun j => a.tmps.getD (dstOf ops j) undef) i)) i o a else StepGoal P (fun i v => F i v (vpar n par (fun j => a.tmps.getD (dstOf ops j) undef) i)) i o a w Q)
    (htail : ∀ vs w lo hi, DoneR ops n a0 w0.drew par F vs w lo hi → wpList P ops.toArray Q (ops.drop n) { tmps := putAll ops vs n a0.tmps, defers := a0.defers } w) :
    (Code.region id ops.toArray true).wp P Q a0 w0 := by
  simp only [headB, Bool.and_eq_true, decide_eq_true_eq] at hB
  obtain ⟨⟨⟨⟨⟨⟨⟨hn, hsel⟩, hchain⟩, hops⟩, hdst⟩, hsink⟩, hfree⟩, hseq⟩ := hB
  have hop : ∀ i, i < n → opB ops a0.tmps.size i = true := fun i hi => List.all_eq_true.1 hops i (List.mem_range.2 hi)
  have hne : ∀ i j, i < n → j < n → i ≠ j → dstOf ops i ≠ dstOf ops j := fun i j hi hj hij => by
    have := List.all_eq_true.1 (List.all_eq_true.1 hdst i (List.mem_range.2 hi)) j (List.mem_range.2 hj)
    simpa [hij] using this
  have hn' : n < ops.toArray.size := by simpa using hn
  have hlen : ops.toArray.size = n + (ops.length - n) := by simp; omega
  refine wp_region_any hm ?_
  have key : ∀ (m : Nat) (listed : Array Bool) (a : Act) (w : World) (lo hh : Nat → Nat), ((List.range n).filter fun i => !listed.getD i false).length = m →
      InvR ops n a0 w0.drew par F listed a w lo hh → wpAny P .any ops.toArray Q (m + (ops.length - n)) listed a w := by
    intro m
    induction m with
    | zero =>
      intro listed a w lo hh hcount inv
      have hall : ∀ i, i < n → listed.getD i false = true := fun i hi => by
        have h0 := List.eq_nil_of_length_eq_zero hcount
        have := List.filter_eq_nil_iff.1 h0 i (List.mem_range.2 hi)
        simpa using this
      have hL := listed_all hn inv.head.size hall inv.head.tail
      have ha : a = { tmps := putAll ops (fun i => a.tmps.getD (dstOf ops i) undef) n a0.tmps, defers := a0.defers } := by
        obtain ⟨tm, df⟩ := a
        have hdf := inv.dfr
        simp only at hdf
        subst hdf
        congr 1
        have hsz := inv.sz
        simp only at hsz
        refine Array.ext (by rw [size_putAll]; exact hsz) fun k h1 h2 => ?_
        obtain ⟨g1, g2⟩ := getD_putAll (ops := ops) (fun i => tm.getD (dstOf ops i) undef) a0.tmps k n (fun i hi => by
          obtain ⟨o, d, _, _, _, hlt, _, hd⟩ := opB_spec (hop i hi)
          rw [hd]; exact hlt) hne
        have e1 : tm[k] = tm.getD k undef := by simp [h1]
        have e2 : ∀ t : Array Value, (h : k < t.size) → t[k] = t.getD k undef := fun t h => by simp [h]
        rw [e1, e2 _ h2]
        by_cases hk : ∀ i, i < n → dstOf ops i ≠ k
        · rw [g1 hk]
          exact inv.old k (fun i hi _ => hk i hi)
        · have ⟨i, hi⟩ := Classical.not_forall.1 hk
          have ⟨hin, hik⟩ := Classical.not_imp.1 hi
          have hik : dstOf ops i = k := Classical.not_not.1 hik
          rw [g2 i hin hik, hik]
      have hT := htail (fun i => a.tmps.getD (dstOf ops i) undef) w lo hh ⟨inv.bel, fun i hi => inv.facts i hi (hall i hi), fun i j hi hj hij => inv.apart i j hi hj (hall i hi) (hall j hj) hij⟩
      rw [← ha] at hT
      rw [hL]
      have := wpAny_of_seq (md := .any) (Q' := Q) (ops := ops.toArray) (ops.drop n) n (listedHead n (ops.length - n)) a w (fun j => by simp [List.getElem?_drop]) (by simpa using hseq) hT
      simpa using this
    | succ m ih =>
      intro listed a w lo hh hcount inv
      -- the least one that has not come up is ready
      have hex : ∃ i, i < n ∧ listed.getD i false = false := by
        cases hl : (List.range n).filter fun i => !listed.getD i false with
        | nil => rw [hl] at hcount; simp at hcount
        | cons i r =>
          have : i ∈ (List.range n).filter fun i => !listed.getD i false := by rw [hl]; exact List.mem_cons_self ..
          obtain ⟨h1, h2⟩ := List.mem_filter.1 this
          exact ⟨i, List.mem_range.1 h1, by simpa using h2⟩
      obtain ⟨i0, hi0, hu0⟩ := hex
      have hlt : ∀ i, i < n → i < listed.size := fun i hi => by rw [inv.head.size]; omega
      have hready : Region.ready .any ops.toArray listed ≠ [] := by
        have hmin : ∀ k, (∃ i, i ≤ k ∧ i < n ∧ listed.getD i false = false) → ∃ i, i < n ∧ listed.getD i false = false ∧ ∀ j, j < i → listed.getD j false = true := by
          intro k
          induction k using Nat.strongRecOn with
          | _ k ihk =>
            rintro ⟨i, hik, hin, hiu⟩
            by_cases hall : ∀ j, j < i → listed.getD j false = true
            · exact ⟨i, hin, hiu, hall⟩
            · have ⟨j, hj⟩ := Classical.not_forall.1 hall
              have ⟨hj1, hj2⟩ := Classical.not_imp.1 hj
              exact ihk j (by omega) ⟨j, Nat.le_refl _, by omega, by simpa using hj2⟩
        obtain ⟨i, hin, hiu, hall⟩ := hmin i0 ⟨i0, Nat.le_refl _, hi0, hu0⟩
        obtain ⟨o, d, ho, _, _, _, hed, _⟩ := opB_spec (hop i hin)
        have : i ∈ Region.ready .any ops.toArray listed := mem_ready.2 ⟨getD_in (hlt i hin) hiu, o, by simpa using ho, fun e he hb => hall _ (hed e he hb)⟩
        intro h0
        rw [h0] at this
        cases this
      rw [show m + 1 + (ops.length - n) = (m + (ops.length - n)) + 1 by omega]
      -- what is known behind operation i
      have after : ∀ i oi d (v : Value) w', i < n → ops[i]? = some oi → oi.dst = some d → dstOf ops i = d → d < a0.tmps.size → i ∈ Region.ready .any ops.toArray listed → Below w.heap.size w w' → F i v (vpar n par (fun j => a.tmps.getD (dstOf ops j) undef) i) w.heap.size w'.heap.size w' →
          wpAny P .any ops.toArray Q (m + (ops.length - n)) (listed.setIfInBounds i true) (a.put oi.dst v) w' := by
        intro i oi d v w' hin ho hd hdo hdlt hi hb hF
        have hiun' := getD_both (mem_ready.1 hi).1
        have hset : (listed.setIfInBounds i true).getD i false = true := by simp [hlt i hin]
        have hvp : ∀ j, j < n → (listed.setIfInBounds i true).getD j false = true → vpar n par (fun j => (a.put oi.dst v).tmps.getD (dstOf ops j) undef) j = vpar n par (fun j => a.tmps.getD (dstOf ops j) undef) j := fun j hj hjl => by
          unfold vpar
          by_cases hpj : par j < n
          · rw [if_pos hpj, if_pos hpj]
            have h1 := List.all_eq_true.1 hpar j (List.mem_range.2 hj)
            simp only [hpj, decide_true, Bool.not_true, Bool.false_or] at h1
            obtain ⟨o', ho', e, he, hbd, hon⟩ := Region.waitsFor_spec h1
            have hpl : listed.getD (par j) false = true := by
              by_cases hji : j = i
              · subst hji
                obtain ⟨_, o3, ho3, hall3⟩ := mem_ready.1 hi
                obtain rfl : o3 = o' := Option.some.inj (ho3.symm.trans ho')
                rw [← hon]; exact hall3 e he hbd
              · have hjl' : listed.getD j false = true := by rw [getD_set_ne false (Ne.symm hji)] at hjl; exact hjl
                rw [← hon]; exact inv.head.closed j o' ho' hjl' e he hbd
            have hpi : par j ≠ i := fun h => by rw [h, hiun'] at hpl; cases hpl
            show (a.put oi.dst v).tmps.getD (dstOf ops (par j)) undef = a.tmps.getD (dstOf ops (par j)) undef
            rw [hd, getD_put_ne (by rw [← hdo]; exact hne i (par j) hin hpj (Ne.symm hpi))]
          · rw [if_neg hpj, if_neg hpj]
        refine ih (listed.setIfInBounds i true) _ w' (fun j => if j = i then w.heap.size else lo j) (fun j => if j = i then w'.heap.size else hh j) ?_ ?_
        · -- one fewer
          have hnd : (List.range n).Nodup := List.nodup_range
          have hperm : ((List.range n).filter fun j => !listed.getD j false).length = ((List.range n).filter fun j => !(listed.setIfInBounds i true).getD j false).length + 1 := by
            have hcnt : ∀ (l : List Nat), l.Nodup → i ∈ l → (l.filter fun j => !listed.getD j false).length = (l.filter fun j => !(listed.setIfInBounds i true).getD j false).length + 1 := by
              intro l
              induction l with
              | nil => intro _ h; cases h
              | cons x r ihl =>
                intro hnd hmem
                obtain ⟨hx, hr⟩ := List.nodup_cons.1 hnd
                rcases List.mem_cons.1 hmem with rfl | hmem
                · have hsame : r.filter (fun j => !listed.getD j false) = r.filter (fun j => !(listed.setIfInBounds i true).getD j false) := List.filter_congr fun j hj => by
                    rw [getD_set_ne false (fun h => hx (by rw [h]; exact hj))]
                  rw [List.filter_cons_of_pos (by simpa using hiun'), List.filter_cons_of_neg (by rw [hset]; simp), hsame]
                  rfl
                · have hxi : x ≠ i := fun h => hx (h ▸ hmem)
                  have := ihl hr hmem
                  rw [List.filter_cons, List.filter_cons, getD_set_ne false (Ne.symm hxi)]
                  cases hq : listed.getD x false with
                  | true => simpa using this
                  | false => simpa using this
            exact hcnt _ hnd (List.mem_range.2 hin)
          omega
        · refine ⟨inv.head.set hi hin, by simpa [Act.put, hd] using inv.dfr, by simpa [Act.put, hd] using inv.sz, ?_, inv.bel.trans (hb.mono inv.bel.size), ?_, ?_⟩
          · intro k hk
            have hdk : d ≠ k := by rw [← hdo]; exact hk i hin hset
            rw [hd, getD_put_ne hdk]
            exact inv.old k fun j hj hjl => hk j hj (getD_set_true hjl)
          · intro j hj hjl
            by_cases hji : j = i
            · subst hji
              simp only [if_true]
              refine ⟨inv.bel.size, hb.size, Nat.le_refl _, ?_⟩
              rw [hvp j hin hset, hdo, hd, getD_put_eq (by rw [inv.sz]; exact hdlt)]
              exact hF
            · simp only [hji, if_false]
              have hjl' : listed.getD j false = true := by rw [getD_set_ne false (Ne.symm hji)] at hjl; exact hjl
              obtain ⟨f1, f2, f3, f4⟩ := inv.facts j hj hjl'
              refine ⟨f1, f2, Nat.le_trans f3 hb.size, ?_⟩
              rw [hvp j hj hjl, hd, getD_put_ne (by rw [← hdo]; exact hne i j hin hj (Ne.symm hji))]
              exact hstab _ _ _ _ _ _ _ f4 f3 hb
          · intro j k hj hk hjl hkl hjk
            by_cases hji : j = i
            · subst hji
              have hkj : k ≠ j := Ne.symm hjk
              simp only [if_true, hkj, if_false]
              have hkl' : listed.getD k false = true := by rw [getD_set_ne false (Ne.symm hkj)] at hkl; exact hkl
              exact Or.inr (inv.facts k hk hkl').2.2.1
            · have hjl' : listed.getD j false = true := by rw [getD_set_ne false (Ne.symm hji)] at hjl; exact hjl
              by_cases hki : k = i
              · subst hki
                simp only [if_true, hji, if_false]
                exact Or.inl (inv.facts j hj hjl').2.2.1
              · have hkl' : listed.getD k false = true := by rw [getD_set_ne false (Ne.symm hki)] at hkl; exact hkl
                simp only [hji, hki, if_false]
                exact inv.apart j k hj hk hjl' hkl' hjk
      have hfacts : ∀ i oi, i < n → ops[i]? = some oi → i ∈ Region.ready .any ops.toArray listed → if E.contains i = true then EagerGoal P (fun i v => F i v (vpar n par (fun j => a.tmps.getD (dstOf ops j) undef) i)) i oi a else StepGoal P (fun i v => F i v (vpar n par (fun j => a.tmps.getD (dstOf ops j) undef) i)) i oi a w Q := fun i oi hin ho hi => by
        obtain ⟨o, d, ho', hg, hd, hdlt, hed, hdo⟩ := opB_spec (hop i hin)
        obtain rfl : oi = o := Option.some.inj (ho.symm.trans ho')
        obtain ⟨hiun, o2, ho2, hall⟩ := mem_ready.1 hi
        obtain rfl : o2 = oi := by
          have h1 : ops.toArray[i]? = some oi := by simpa using ho
          exact Option.some.inj (ho2.symm.trans h1)
        exact hstep i o2 hin ho a w (fun k hk => inv.old k (fun j hj _ => hk j hj)) (fun e he hb => by
          obtain ⟨f1, f2, f3, f4⟩ := inv.facts e.on (by have := hed e he hb; omega) (hall e he hb)
          exact ⟨_, _, f1, f3, f4⟩) inv.bel
      by_cases heager : ∃ i, i < n ∧ E.contains i = true ∧ i ∈ Region.ready .any ops.toArray listed
      · obtain ⟨i, hin, hiE, hi⟩ := heager
        obtain ⟨o, d, ho, hg, hd, hdlt, hed, hdo⟩ := opB_spec (hop i hin)
        have hS := hfacts i o hin ho hi
        rw [if_pos hiE] at hS
        obtain ⟨v, hrun, hF⟩ := hS
        have ho' : ops.toArray[i]? = some o := by simpa using ho
        have hfr := List.all_eq_true.1 hfree i (by simpa using hiE)
        have hall : ∀ j oj, ops.toArray[j]? = some oj → j ≠ i → listed.getD j true = false → (∀ e ∈ oj.after, Region.binds .any e = true → e.on ≠ i) → o.apart ops.toArray oj = true := fun j oj hj hji hlj hno => by
          refine Region.free_spec ho' hfr j oj hj hji ?_ hno
          have hjlt : j < ops.toArray.size := (Array.getElem?_eq_some_iff.1 hj).1
          have hun : listed.getD j false = false := getD_both hlj
          obtain ⟨_, o3, ho3, hall3⟩ := mem_ready.1 hi
          obtain rfl : o3 = o := Option.some.inj (ho3.symm.trans ho')
          have hfl : (o3.after.any fun e => Region.binds .any e && decide (e.on = j)) = false := by
            cases hc : (o3.after.any fun e => Region.binds .any e && decide (e.on = j)) with
            | false => rfl
            | true =>
              obtain ⟨e, he, hb⟩ := Array.any_eq_true'.1 hc
              simp only [Bool.and_eq_true, decide_eq_true_eq] at hb
              have h4 := hall3 e he hb.1
              rw [hb.2, hun] at h4
              cases h4
          have hsz : (predsB ops.toArray i).size = ops.toArray.size := by simp [predsB]
          have hval : (predsB ops.toArray i).getD j true = false := by
            have hlt3 : j < (predsB ops.toArray i).size := by rw [hsz]; exact hjlt
            have e1 : (predsB ops.toArray i).getD j true = (predsB ops.toArray i)[j] := by simp [hlt3]
            rw [e1]
            simp only [predsB, List.getElem_toArray, List.getElem_map, List.getElem_range, ho']
            exact hfl
          exact hval
        have hw : Region.wanted o (yielded ops.toArray a.tmps) = true := by simp [Region.wanted, hg]
        exact wpAny_first ho' (Region.noSelect_spec hsel) (fun c a w h => by rw [hd] at h; exact hQ _ _ _ _ _ h) _ listed a w hall hi (Or.inl ⟨hw, hrun⟩) (after i o d v w hin ho hd hdo hdlt hi (Below.refl _ _) (hF w))
      refine ⟨fun h0 => absurd h0 hready, fun i hi => ?_⟩
      have hin : i < n := by
        rcases Nat.lt_or_ge i n with h | h
        · exact h
        · exfalso
          obtain ⟨hiun, oi, hoi, hall⟩ := mem_ready.1 hi
          have hilt : i < ops.toArray.size := (Array.getElem?_eq_some_iff.1 hoi).1
          by_cases hie : i = n
          · subst hie
            -- all but the eager ones have come up
            have hdone' : ∀ d j, i - j = d → j < i → E.contains j = false → listed.getD j false = true := by
              intro d
              induction d using Nat.strongRecOn with
              | _ d ihd =>
                intro j hjd hj hjE
                have h1 := List.all_eq_true.1 hsink j (List.mem_range.2 hj)
                rw [hjE, Bool.false_or] at h1
                obtain ⟨k, hk, hk2⟩ := List.any_eq_true.1 h1
                simp only [Bool.and_eq_true, decide_eq_true_eq, Bool.or_eq_true, Bool.not_eq_true'] at hk2
                obtain ⟨⟨hjk, hwt⟩, hkn⟩ := hk2
                obtain ⟨o', ho', e, he, hb, hon⟩ := Region.waitsFor_spec hwt
                have hki : k ≤ i := by have := List.mem_range.1 hk; omega
                by_cases hke : k = i
                · subst hke
                  obtain rfl : o' = oi := Option.some.inj (ho'.symm.trans hoi)
                  have := hall e he hb
                  rwa [hon] at this
                · have hkE : E.contains k = false := by
                    rcases hkn with h | h
                    · exact absurd h hke
                    · exact h
                  have hkl := ihd (i - k) (by omega) k rfl (by omega) hkE
                  have := inv.head.closed k o' ho' hkl e he hb
                  rwa [hon] at this
            have hdone : ∀ j, j < i → E.contains j = false → listed.getD j false = true := fun j => hdone' _ j rfl
            have hleast : ∀ k, (∃ j, j ≤ k ∧ j < i ∧ listed.getD j false = false) → ∃ j, j < i ∧ listed.getD j false = false ∧ ∀ x, x < j → listed.getD x false = true := by
              intro k
              induction k using Nat.strongRecOn with
              | _ k ihk =>
                rintro ⟨j, hjk, hjn, hju⟩
                by_cases hallx : ∀ x, x < j → listed.getD x false = true
                · exact ⟨j, hjn, hju, hallx⟩
                · have ⟨x, hx⟩ := Classical.not_forall.1 hallx
                  have ⟨hx1, hx2⟩ := Classical.not_imp.1 hx
                  exact ihk x (by omega) ⟨x, Nat.le_refl _, by omega, by simpa using hx2⟩
            obtain ⟨j, hjn, hju, hjall⟩ := hleast i0 ⟨i0, Nat.le_refl _, hi0, hu0⟩
            obtain ⟨oj, d, hoj, _, _, _, hed, _⟩ := opB_spec (hop j hjn)
            have hjE : E.contains j = true := by
              cases hc : E.contains j with
              | true => rfl
              | false => rw [hdone j hjn hc] at hju; cases hju
            exact heager ⟨j, hjn, hjE, mem_ready.2 ⟨getD_in (hlt j hjn) hju, oj, by simpa using hoj, fun e he hb => hjall _ (hed e he hb)⟩⟩
          · have h1 := List.all_eq_true.1 hchain i (List.mem_range.2 hilt)
            simp only [Bool.or_eq_true, decide_eq_true_eq] at h1
            rcases h1 with h1 | h1
            · omega
            · obtain ⟨o', ho', e, he, hb, hon⟩ := Region.waitsFor_spec h1
              obtain rfl : o' = oi := Option.some.inj (ho'.symm.trans hoi)
              have h2 := hall e he hb
              rw [hon, getD_both (inv.head.tail (i - 1) (by omega) (by omega))] at h2
              cases h2
      obtain ⟨o, d, ho, hg, hd, hdlt, hed, hdo⟩ := opB_spec (hop i hin)
      have hoi : ops.toArray[i]? = some o := by simpa using ho
      have hS := hfacts i o hin ho hi
      rw [if_neg (fun hE => heager ⟨i, hin, hE, hi⟩)] at hS
      unfold wpOp
      simp only [hoi]
      have hw : Region.wanted o (yielded ops.toArray a.tmps) = true := by simp [Region.wanted, hg]
      rw [if_pos hw]
      refine .inl (Oper.wp_mono ?_ hS)
      rintro a' w' ⟨v, rfl, hb, hF⟩
      exact after i o d v w' hin ho hd hdo hdlt hi hb hF
  have inv0 : InvR ops n a0 w0.drew par F (Array.replicate ops.toArray.size false) a0 w0.drew (fun _ => 0) (fun _ => 0) :=
    ⟨⟨by simp, fun j oj _ hl => (by rw [getD_replicate_false] at hl; cases hl), fun t _ ht => getD_in (by simpa using ht) (getD_replicate_false _ _)⟩, rfl, rfl, fun _ _ => rfl, Below.refl _ _,
      fun i _ hl => (by rw [getD_replicate_false] at hl; cases hl), fun i j _ _ hl => (by rw [getD_replicate_false] at hl; cases hl)⟩
  have hcount : ((List.range n).filter fun i => !(Array.replicate ops.toArray.size false).getD i false).length = n := by
    rw [List.filter_eq_self.2 fun i _ => by rw [getD_replicate_false]; rfl]
    simp
  have := key n _ a0 w0.drew _ _ hcount inv0
  rw [← hlen] at this
  exact this
def StableR (f : Value → Value → Nat → Nat → World → Prop) : Prop := ∀ v u lo hi w w', f v u lo hi w → hi ≤ w.heap.size → Below w.heap.size w w' → f v u lo hi w'
theorem str_const (c : Value) : StableR (fun v _ _ _ _ => v = c) := fun _ _ _ _ _ _ h _ _ => h
theorem str_rel (f : Value → Value → Prop) : StableR (fun v u _ _ _ => f v u) := fun _ _ _ _ _ _ h _ _ => h
theorem str_of {f : Value → World → Prop} (h : Stable f) : StableR (fun v _ _ _ w => f v w) := fun v _ _ _ w w' h1 _ hb => h v w w' h1 hb
theorem str_ofl {f : Value → Nat → Nat → World → Prop} (h : StableL f) : StableR (fun v _ lo hi w => f v lo hi w) := fun v _ lo hi w w' h1 h2 hb => h v lo hi w w' h1 h2 hb
def StabAllR : List (Value → Value → Nat → Nat → World → Prop) → Prop
  | [] => True
  | f :: r => StableR f ∧ StabAllR r
def anyR_ : Value → Value → Nat → Nat → World → Prop := fun _ _ _ _ _ => True
theorem StabAllR.get : ∀ {fs : List (Value → Value → Nat → Nat → World → Prop)}, StabAllR fs → ∀ i, StableR (fs.getD i anyR_)
  | [], _, i => by intro v u lo hi w w' _ _ _; simp [anyR_]
  | f :: r, h, i => by
    cases i with
    | zero => exact h.1
    | succ i => simpa using StabAllR.get h.2 i

def FR (fs : List (Value → Value → Nat → Nat → World → Prop)) : Nat → Value → Value → Nat → Nat → World → Prop := fun i v u lo hi w => fs.getD i anyR_ v u lo hi w
theorem dep_r {fs : List (Value → Value → Nat → Nat → World → Prop)} {i b : Nat} {v u : Value} {w : World} (h : ∃ lo hi, b ≤ lo ∧ hi ≤ w.heap.size ∧ FR fs i v u lo hi w) : ∃ lo hi, b ≤ lo ∧ hi ≤ w.heap.size ∧ fs.getD i anyR_ v u lo hi w := h

section
variable {i : Nat} {o : Oper} {a : Act} {w : World} {fs : List (Value → Value → Nat → Nat → World → Prop)} {m : Nat} {g : Nat → Value}
theorem stepr_pure {E : List Nat} (hE : E.contains i = false) (v : Value) (h : (execOp a.eval o).run P w = .ok (.value v) w) (hf : fs.getD i anyR_ v (vpar m par g i) w.heap.size w.heap.size w) : Goal P E (fun i v => FR fs i v (vpar m par g i)) i o a w Q :=
  .of_step hE (StepGoal.pure h hf)
theorem stepr_call {E : List Nat} (hE : E.contains i = false) {f : FuncId} {args : Array Value} (h : (execOp a.eval o).run P w = .ok (.enter f args) w)
    (hc : Calls P f args w fun e w' => ∃ v, e = .returned v ∧ Below w.heap.size w w' ∧ fs.getD i anyR_ v (vpar m par g i) w.heap.size w'.heap.size w') : Goal P E (fun i v => FR fs i v (vpar m par g i)) i o a w Q :=
  .of_step hE (StepGoal.call h (hc.mono fun _ _ ⟨v, he, hb, hf⟩ => ⟨v, he, hb, hf⟩))
end

/-- The obligations one by one. -/
def StepsR (P : Program) (ops : List Oper) (n : Nat) (E : List Nat) (par : Nat → Nat) (F : Nat → Value → Value → Nat → Nat → World → Prop) (a0 : Act) (w0 : World) (Q : Exit → Act → World → Prop) : List Oper → Nat → Prop
  | [], _ => True
  | o :: r, i => (∀ (a : Act) (w : World), (∀ k, ((List.range n).all fun j => decide (dstOf ops j ≠ k)) = true → a.tmps.getD k undef = a0.tmps.getD k undef) →
      (∀ j, (o.after.any fun e => Region.binds .any e && e.on == j) = true → ∃ lo hi, w0.heap.size ≤ lo ∧ hi ≤ w.heap.size ∧ F j (a.tmps.getD (dstOf ops j) undef) (vpar n par (fun j => a.tmps.getD (dstOf ops j) undef) j) lo hi w) → Below w0.heap.size w0.drew w →
      Goal P E (fun i v => F i v (vpar n par (fun j => a.tmps.getD (dstOf ops j) undef) i)) i o a w Q) ∧ StepsR P ops n E par F a0 w0 Q r (i + 1)

theorem StepsR.get {E : List Nat} : ∀ (l : List Oper) (k : Nat), StepsR P ops n E par F a0 w0 Q l k → ∀ j o, l[j]? = some o →
    ∀ (a : Act) (w : World), (∀ k, (∀ j, j < n → dstOf ops j ≠ k) → a.tmps.getD k undef = a0.tmps.getD k undef) →
      (∀ e ∈ o.after, Region.binds .any e = true → ∃ lo hi, w0.heap.size ≤ lo ∧ hi ≤ w.heap.size ∧ F e.on (a.tmps.getD (dstOf ops e.on) undef) (vpar n par (fun j => a.tmps.getD (dstOf ops j) undef) e.on) lo hi w) → Below w0.heap.size w0.drew w →
      Goal P E (fun i v => F i v (vpar n par (fun j => a.tmps.getD (dstOf ops j) undef) i)) (k + j) o a w Q
  | [], _, _, j, o, h => by simp at h
  | x :: r, k, hS, j, o, h => by
    cases j with
    | zero =>
      have hx : x = o := by simpa using h
      subst hx
      intro a w hold hdep hb
      refine hS.1 a w (fun k hk => hold k fun j hj => ?_) (fun j hj => ?_) hb
      · have := List.all_eq_true.1 hk j (List.mem_range.2 hj)
        simpa using this
      · obtain ⟨e, he, hb⟩ := Array.any_eq_true'.1 hj
        simp only [Bool.and_eq_true, beq_iff_eq] at hb
        have := hdep e he hb.1
        rwa [hb.2] at this
    | succ j =>
      have := StepsR.get r (k + 1) hS.2 j o (by simpa using h)
      rw [show k + (j + 1) = k + 1 + j by omega]
      exact this

theorem wp_region_stepsr {id : Nat} {ops : List Oper} {a0 : Act} {w0 : World} (n : Nat) (E : List Nat) (par : Nat → Nat) (fs : List (Value → Value → Nat → Nat → World → Prop)) (hs : StabAllR fs) (hm : P.follows .mixedOrders = true) (hB : headB ops n a0.tmps.size E = true)
    (hpar : parB ops.toArray n par = true)
    (hQ : ∀ c (d : Nat) v (a : Act) w, Q (.panic c) (a.put (some d) v) w → Q (.panic c) a w)
    (hstep : StepsR P ops n E par (FR fs) a0 w0 Q (ops.take n) 0)
    (htail : ∀ vs w lo hi, DoneR ops n a0 w0.drew par (FR fs) vs w lo hi → wpList P ops.toArray Q (ops.drop n) { tmps := putAll ops vs n a0.tmps, defers := a0.defers } w) :
    (Code.region id ops.toArray true).wp P Q a0 w0 := by
  refine wp_region_rel n E par (FR fs) hm hB hpar hQ (fun i v u lo hi w w' h h1 h2 => hs.get i v u lo hi w w' h h1 h2) (fun i o hi ho a w h1 h2 h3 => ?_) htail
  have := StepsR.get (ops.take n) 0 hstep i o (by rw [List.getElem?_take, if_pos hi]; exact ho) a w h1 h2 h3
  simpa [Goal] using this
end
end Go.Proofs.Ytlnfcjaempojgaa.Plan
