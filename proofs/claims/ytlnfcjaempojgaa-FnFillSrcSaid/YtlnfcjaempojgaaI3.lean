/- The builtin copy into a row of pixels; a part of a row of pixels painted at once. -/
import Derived.Test.YtlnfcjaempojgaaI2
import Derived.Test.YtlnfcjaempojgaaD3
import Derived.Laws.CopyOwn
set_option linter.unusedVariables false
namespace Go.Proofs.Ytlnfcjaempojgaa
open Go.RowKit

/-- L bytes laid over f from place i on. -/
def fspan (f : Nat → Int) (i L : Nat) (v : Nat → Int) : Nat → Int := fun j => if i ≤ j ∧ j < i + L then v (j - i) else f j

theorem only_setRow (w : World) (g : Nat) (cs : Array Value) : Only [g] w (w.setRow g cs) :=
  ⟨rfl, rfl, rfl, by simp [World.setRow], fun k _ hk => setRow_other w g k cs (by intro h; exact hk (by simp [h]))⟩

theorem wpList_copy_pix {P : Program} {w : World} {ops : Array Oper} {rest : List Oper} {o : Oper} {a : Act} {Q : Exit → Act → World → Prop} (hgd : o.guard = none) (d s : Operand) (dT sT : TypeId)
    (ho : o.op = .call { callee := .builtin .copy, args := #[d, s], argTypes := #[dT, sT] }) (elem : TypeId) (hu : P.underlying dT = some (.slice elem)) (hsz : (P.info? elem).map (·.size) = some 1)
    (g off L dCap : Nat) (gs offs sCap : Nat) (hd : a.eval d = .slice (some ⟨g, off, none⟩) L dCap) (hs : a.eval s = .slice (some ⟨gs, offs, none⟩) L sCap)
    (cap n : Nat) (f v : Nat → Int) (hrow : PixRow w g cap n f) (hfit : off + L ≤ n) (hsrc : ∀ j, j < L → w.cell? ⟨gs, offs + j, none⟩ = some (.int .u8 (v j)))
    (h : ∀ w' u, Only [g] w w' → PixRow w' g cap n (fspan f off L v) → wpList P ops Q rest (a.put o.dst u) w') : wpList P ops Q (o :: rest) a w := by
  obtain ⟨cur, h1, h2, h3, h4⟩ := hrow
  have hcs : ∀ j, j < L → ((List.range L).map fun j => Value.int .u8 (v j))[j]? = some (.int .u8 (v j)) := fun j hj => by simp [hj]
  refine wpList_copy_own hgd d s dT sT ho elem hu hsz g off L dCap ⟨gs, offs, none⟩ L sCap hd hs cur 5 h1 ((List.range L).map fun j => Value.int .u8 (v j)) (by simp) (fun j u hj => ?_) (by simp; omega) (fun u hu => ?_) ?_
  · have hjL : j < L := by
      have := (List.getElem?_eq_some_iff.1 hj).1
      simpa using this
    rw [hcs j hjL] at hj
    obtain rfl := Option.some.inj hj
    rw [Addr.add_lit]
    exact hsrc j hjL
  · obtain ⟨b, _, rfl⟩ := List.mem_map.1 hu
    rfl
  · refine h _ _ (only_setRow w g _) ⟨_, setRow_heap w g _ _ 5 _ h1, ?_, h3, fun j hj => ?_⟩
    · simp [h2]; omega
    · unfold fspan
      rw [List.getElem?_toArray]
      have hcl : cur.toList.length = cap := by simpa using h2
      have htl : (cur.toList.take off).length = off := by simp [h2]; omega
      by_cases hj1 : j < off
      · rw [if_neg (by omega), List.getElem?_append_left (by omega), List.getElem?_take, if_pos hj1]
        have := h4 j hj
        rwa [← Array.getElem?_toList] at this
      · rw [List.getElem?_append_right (by omega), htl]
        by_cases hj2 : j < off + L
        · rw [if_pos ⟨by omega, hj2⟩, List.getElem?_append_left (by simp; omega)]
          exact hcs _ (by omega)
        · rw [if_neg (by omega), List.getElem?_append_right (by simp; omega), List.getElem?_drop]
          have := h4 j hj
          rw [← Array.getElem?_toList] at this
          simp only [List.length_map, List.length_range]
          rw [show off + L + (j - off - L) = j by omega]
          exact this

theorem Painted.span {W : Nat} {old : Nat → Int} {new : Nat → Nat → Nat → Int} {P P' : Nat → Nat → Prop} {f v : Nat → Int} (h : Painted W old new P f) {r0 ca wN i : Nat} (hc0 : ca + wN ≤ W) (hi : pos W r0 ca 0 = i)
    (e : ∀ k j, k < wN → j < 4 → v (4 * k + j) = new r0 (ca + k) j) (hP : ∀ r c, c < W → ((P r c ∨ (r = r0 ∧ ca ≤ c ∧ c < ca + wN)) ↔ P' r c)) : Painted W old new P' (fspan f i (4 * wN) v) := by
  subst hi
  intro r c k hc hk
  have hin : (pos W r0 ca 0 ≤ pos W r c k ∧ pos W r c k < pos W r0 ca 0 + 4 * wN) ↔ (r = r0 ∧ ca ≤ c ∧ c < ca + wN) := by
    constructor
    · intro hh
      obtain ⟨x, hx⟩ : ∃ x, x = (pos W r c k - pos W r0 ca 0) / 4 := ⟨_, rfl⟩
      have hd : pos W r c k = pos W r0 (ca + x) ((pos W r c k - pos W r0 ca 0) % 4) := by
        have h1 : pos W r0 (ca + x) ((pos W r c k - pos W r0 ca 0) % 4) = pos W r0 ca 0 + 4 * x + (pos W r c k - pos W r0 ca 0) % 4 := by unfold pos; omega
        omega
      obtain ⟨a, b, _⟩ := pos_inj hc (by omega) hk (by omega) hd
      exact ⟨a, by omega, by omega⟩
    · rintro ⟨rfl, h1, h2⟩
      unfold pos
      omega
  by_cases he : r = r0 ∧ ca ≤ c ∧ c < ca + wN
  · refine ⟨fun _ => ?_, fun hp => absurd ((hP r c hc).1 (Or.inr he)) hp⟩
    unfold fspan
    rw [if_pos (hin.2 he)]
    obtain ⟨rfl, h1, h2⟩ := he
    have e1 : pos W r c k - pos W r ca 0 = 4 * (c - ca) + k := by unfold pos; omega
    rw [e1, e (c - ca) k (by omega) hk, show ca + (c - ca) = c by omega]
  · have hne : fspan f (pos W r0 ca 0) (4 * wN) v (pos W r c k) = f (pos W r c k) := by
      unfold fspan
      rw [if_neg (fun hh => he (hin.1 hh))]
    rw [hne]
    exact ⟨fun hp => (h r c k hc hk).1 (((hP r c hc).2 hp).resolve_right he), fun hp => (h r c k hc hk).2 fun hp' => hp ((hP r c hc).1 (Or.inl hp'))⟩
end Go.Proofs.Ytlnfcjaempojgaa
