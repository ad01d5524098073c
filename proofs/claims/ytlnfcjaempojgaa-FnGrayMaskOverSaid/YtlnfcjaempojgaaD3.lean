/- The Bounds methods behind an interface. -/
import Derived.Test.YtlnfcjaempojgaaD2
import Derived.Test.YtlnfcjaempojgaaPlan2
namespace Go.Proofs.Ytlnfcjaempojgaa
open Go.RowKit

/-- A call of V's method Bounds is a call of function f with args. -/
def BoundsOf (V : Value) (f : FuncId) (args : Array Value) : Prop :=
  ∀ (ρ : Operand → Value) (x : Operand) (dst : Option Tmp) (type : TypeId) (pos : String) (after : Array Edge) (guard : Option (Nat × Bool)) (w : World), ρ x = V →
    (execOp ρ { dst, op := .call { callee := .invoke x "Bounds", args := #[], argTypes := #[] }, type, pos, after, guard }).run Try.prog w = .ok (.enter f args) w

theorem boundsOf_mk {V : Value} {f : FuncId} {args : Array Value} (h : ∀ w, (callMethod V "Bounds" #[]).run Try.prog w = .ok (.enter f args) w) : BoundsOf V f args := by
  intro ρ x dst type pos after guard w hx
  have := h w
  simp only [execOp, resolve, invoke, hx]
  simpa using this

theorem bo84 (g : Nat) : BoundsOf (.iface 84 (.pointer (some ⟨g, 0, none⟩))) 128 #[.pointer (some ⟨g, 0, none⟩)] := boundsOf_mk fun w => by kernel_rfl
theorem bo91 (g : Nat) : BoundsOf (.iface 91 (.pointer (some ⟨g, 0, none⟩))) 143 #[.pointer (some ⟨g, 0, none⟩)] := boundsOf_mk fun w => by kernel_rfl
theorem bo99 (g : Nat) : BoundsOf (.iface 99 (.pointer (some ⟨g, 0, none⟩))) 148 #[.pointer (some ⟨g, 0, none⟩)] := boundsOf_mk fun w => by kernel_rfl
theorem bo86 (g : Nat) : BoundsOf (.iface 86 (.pointer (some ⟨g, 0, none⟩))) 133 #[.pointer (some ⟨g, 0, none⟩)] := boundsOf_mk fun w => by kernel_rfl
theorem bo115 (g : Nat) : BoundsOf (.iface 115 (.pointer (some ⟨g, 0, none⟩))) 157 #[.pointer (some ⟨g, 0, none⟩)] := boundsOf_mk fun w => by kernel_rfl
theorem bo89 (g : Nat) : BoundsOf (.iface 89 (.pointer (some ⟨g, 0, none⟩))) 138 #[.pointer (some ⟨g, 0, none⟩)] := boundsOf_mk fun w => by kernel_rfl
theorem bo103 (g : Nat) : BoundsOf (.iface 103 (.pointer (some ⟨g, 0, none⟩))) 153 #[.pointer (some ⟨g, 0, none⟩)] := boundsOf_mk fun w => by kernel_rfl

/-- Of what was there only the blocks of G may have turned. -/
structure Only (G : List Nat) (w w' : World) : Prop where
  os : w'.os = w.os
  tape : w'.tape = w.tape
  output : w'.output = w.output
  size : w.heap.size ≤ w'.heap.size
  block : ∀ k, k < w.heap.size → k ∉ G → w'.heap[k]? = w.heap[k]?
theorem Only.refl (G : List Nat) (w : World) : Only G w w := ⟨rfl, rfl, rfl, Nat.le_refl _, fun _ _ _ => rfl⟩
theorem Only.of_below {G : List Nat} {w w' : World} (h : Below w.heap.size w w') : Only G w w' := ⟨h.os, h.tape, h.output, h.size, fun k hk _ => h.block k hk⟩
theorem Only.trans {G : List Nat} {a b c : World} (h : Only G a b) (k : Only G b c) : Only G a c :=
  ⟨k.os.trans h.os, k.tape.trans h.tape, k.output.trans h.output, Nat.le_trans h.size k.size, fun i hi hG => (k.block i (Nat.lt_of_lt_of_le hi h.size) hG).trans (h.block i hi hG)⟩
theorem Only.setCell {G : List Nat} {a w : World} (h : Only G a w) {p : Addr} (hp : p.block ∈ G ∨ a.heap.size ≤ p.block) (u : Value) : Only G a (w.setCell p u) :=
  ⟨h.os, h.tape, h.output, by simpa [World.setCell] using h.size, fun i hi hG => (Below.heap_setCell w p u i (by
    rintro rfl
    rcases hp with hp | hp
    · exact hG hp
    · omega)).trans (h.block i hi hG)⟩
theorem Only.alloc {G : List Nat} {a w : World} (h : Only G a w) (o : Obj) : Only G a (w.alloc o) :=
  ⟨h.os, h.tape, h.output, Nat.le_trans h.size (by simp), fun i hi hG => (Below.heap_alloc w o i (Nat.lt_of_lt_of_le hi h.size)).trans (h.block i hi hG)⟩
theorem Only.drewN {G : List Nat} {a w : World} (h : Only G a w) (n : Nat) : Only G a (w.drewN n) := ⟨h.os, h.tape, h.output, h.size, h.block⟩
theorem Only.drew {G : List Nat} {a w : World} (h : Only G a w) : Only G a w.drew := ⟨h.os, h.tape, h.output, h.size, h.block⟩
theorem Only.blk {G : List Nat} {w w' : World} {g : Nat} {t : TypeId} {cs : Array Value} (h : Only G w w') (hb : Blk w g t cs) (hG : g ∉ G) : Blk w' g t cs := (h.block g hb.lt hG).trans hb
theorem Only.below {G : List Nat} {w w' : World} {B : Nat} (h : Only G w w') (hB : B ≤ w.heap.size) (hG : ∀ g ∈ G, B ≤ g) : Below B w w' :=
  ⟨h.os, h.tape, h.output, h.size, fun k hk => h.block k (by omega) (fun hm => by have := hG k hm; omega)⟩
theorem Only.set4_ {G : List Nat} {a w : World} (h : Only G a w) {g : Nat} (hg : g ∈ G ∨ a.heap.size ≤ g) (x y z u : Value) : Only G a (set4 w g x y z u) :=
  (((h.setCell (p := ⟨g, 0, none⟩) hg x).setCell (p := ⟨g, 1, none⟩) hg y).setCell (p := ⟨g, 2, none⟩) hg z).setCell (p := ⟨g, 3, none⟩) hg u

/-- The image V has the bounds b; it hangs on the blocks of G alone, none of which is a rectangle or a point. -/
structure HasB (w : World) (V : Value) (b : Rc) : Prop where
  ex : ∃ f args, BoundsOf V f args ∧ ∃ G : Nat → Prop, (∀ k, G k → k < w.heap.size ∧ ∀ cs t, w.heap[k]? = some (.cells cs t (0, 0)) → t ≠ 73 ∧ t ≠ 71) ∧
    ∀ W, (∀ k, G k → W.heap[k]? = w.heap[k]?) → Calls Try.prog f args W fun e w' => e = .returned (rcV b) ∧ Below W.heap.size W w'
theorem HasB.keep {w W : World} {V : Value} {b : Rc} (h : HasB w V b) (hb : Below w.heap.size w W) : HasB W V b := by
  obtain ⟨f, args, h1, G, h2, h3⟩ := h.ex
  refine ⟨f, args, h1, G, fun k hk => ?_, fun W' hW => h3 W' fun k hk => (hW k hk).trans (hb.block k (h2 k hk).1)⟩
  obtain ⟨a, c⟩ := h2 k hk
  exact ⟨Nat.lt_of_lt_of_le a hb.size, fun cs t ht => c cs t (by rw [← hb.block k a]; exact ht)⟩
theorem HasB.only {w W : World} {V : Value} {b : Rc} {g1 g2 g3 : Nat} {c1 c2 c3 : Array Value} (h : HasB w V b) (hb : Only [g1, g2, g3] w W) (h1 : Blk w g1 73 c1) (h2 : Blk w g2 71 c2) (h3 : Blk w g3 71 c3) : HasB W V b := by
  obtain ⟨f, args, hf, G, hG, hc⟩ := h.ex
  have hout : ∀ k, G k → k ∉ [g1, g2, g3] := fun k hk hm => by
    obtain ⟨_, c⟩ := hG k hk
    simp only [List.mem_cons, List.not_mem_nil, or_false] at hm
    rcases hm with rfl | rfl | rfl
    · exact (c _ _ h1).1 rfl
    · exact (c _ _ h2).2 rfl
    · exact (c _ _ h3).2 rfl
  refine ⟨f, args, hf, G, fun k hk => ?_, fun W' hW => hc W' fun k hk => (hW k hk).trans (hb.block k (hG k hk).1 (hout k hk))⟩
  obtain ⟨a, c⟩ := hG k hk
  exact ⟨Nat.lt_of_lt_of_le a hb.size, fun cs t ht => c cs t (by rw [← hb.block k a (hout k hk)]; exact ht)⟩
/-- What a walk wants of it. -/
theorem HasB.call {w : World} {V : Value} {b : Rc} (h : HasB w V b) : ∃ f args, BoundsOf V f args ∧ ∀ W, Below w.heap.size w W → Calls Try.prog f args W fun e w' => e = .returned (rcV b) ∧ Below W.heap.size W w' := by
  obtain ⟨f, args, hf, G, hG, hc⟩ := h.ex
  exact ⟨f, args, hf, fun W hW => hc W fun k hk => hW.block k (hG k hk).1⟩

theorem hasB_ptr {w : World} {V : Value} {f : FuncId} {g : Nat} {S : TypeId} {s st : Value} {b : Rc} (hS : S ≠ 73 ∧ S ≠ 71) (h : Blk w g S #[s, st, iv b.a, iv b.b, iv b.c, iv b.d]) (hf : BoundsOf V f #[.pointer (some ⟨g, 0, none⟩)])
    (hc : ∀ W, Blk W g S #[s, st, iv b.a, iv b.b, iv b.c, iv b.d] → Calls Try.prog f #[.pointer (some ⟨g, 0, none⟩)] W fun e w' => e = .returned (rcV b) ∧ Below W.heap.size W w') : HasB w V b :=
  ⟨f, _, hf, fun k => k = g, fun k hk => by
    subst hk
    refine ⟨h.lt, fun cs t ht => ?_⟩
    have h' : w.heap[k]? = some (.cells #[s, st, iv b.a, iv b.b, iv b.c, iv b.d] S (0, 0)) := h
    rw [h'] at ht
    simp only [Option.some.injEq, Obj.cells.injEq] at ht
    rw [← ht.2.1]
    exact hS, fun W hW => hc W ((hW g rfl).trans h)⟩
theorem hasB84 {w : World} {g : Nat} {s st : Value} {b : Rc} (h : Blk w g 95 #[s, st, iv b.a, iv b.b, iv b.c, iv b.d]) : HasB w (.iface 84 (.pointer (some ⟨g, 0, none⟩))) b := hasB_ptr (by decide) h (bo84 g) fun W hW => b128 g _ s st _ _ _ _ _ hW
theorem hasB91 {w : World} {g : Nat} {s st : Value} {b : Rc} (h : Blk w g 112 #[s, st, iv b.a, iv b.b, iv b.c, iv b.d]) : HasB w (.iface 91 (.pointer (some ⟨g, 0, none⟩))) b := hasB_ptr (by decide) h (bo91 g) fun W hW => b143 g _ s st _ _ _ _ _ hW
theorem hasB99 {w : World} {g : Nat} {s st : Value} {b : Rc} (h : Blk w g 113 #[s, st, iv b.a, iv b.b, iv b.c, iv b.d]) : HasB w (.iface 99 (.pointer (some ⟨g, 0, none⟩))) b := hasB_ptr (by decide) h (bo99 g) fun W hW => b148 g _ s st _ _ _ _ _ hW
theorem hasB86 {w : World} {g : Nat} {s st : Value} {b : Rc} (h : Blk w g 114 #[s, st, iv b.a, iv b.b, iv b.c, iv b.d]) : HasB w (.iface 86 (.pointer (some ⟨g, 0, none⟩))) b := hasB_ptr (by decide) h (bo86 g) fun W hW => b133 g _ s st _ _ _ _ _ hW
theorem hasB115 {w : World} {g : Nat} {s st : Value} {b : Rc} (h : Blk w g 116 #[s, st, iv b.a, iv b.b, iv b.c, iv b.d]) : HasB w (.iface 115 (.pointer (some ⟨g, 0, none⟩))) b := hasB_ptr (by decide) h (bo115 g) fun W hW => b157 g _ s st _ _ _ _ _ hW
theorem hasB89 {w : World} {g : Nat} {s st : Value} {b : Rc} (h : Blk w g 117 #[s, st, iv b.a, iv b.b, iv b.c, iv b.d]) : HasB w (.iface 89 (.pointer (some ⟨g, 0, none⟩))) b := hasB_ptr (by decide) h (bo89 g) fun W hW => b138 g _ s st _ _ _ _ _ hW
theorem hasB103 {w : World} {g : Nat} : HasB w (.iface 103 (.pointer (some ⟨g, 0, none⟩))) ⟨-1000000000, -1000000000, 1000000000, 1000000000⟩ :=
  ⟨_, _, bo103 g, fun _ => False, fun _ h => h.elim, fun W _ => ubounds_any _ W⟩

end Go.Proofs.Ytlnfcjaempojgaa
