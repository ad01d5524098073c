/- One pixel more is painted; a row of four bytes. No program in sight. -/
import Derived.Test.YtlnfcjaempojgaaI1
set_option linter.unusedVariables false
namespace Go.Proofs.Ytlnfcjaempojgaa
open Go.RowKit

def quad (a b c d : Int) : Nat → Int := fun k => if k = 0 then a else if k = 1 then b else if k = 2 then c else d
theorem PixRow.quad {w : World} {g cap n : Nat} {f : Nat → Int} (h : PixRow w g cap n f) (i : Nat) (a b c d : Int) : PixRow (Ytlnfcjaempojgaa.put4 w g i a b c d) g cap n (fput f i (Ytlnfcjaempojgaa.quad a b c d)) := PixRow.put4 h i (Ytlnfcjaempojgaa.quad a b c d)
theorem Painted.congr_new {W : Nat} {old : Nat → Int} {new new' : Nat → Nat → Nat → Int} {P : Nat → Nat → Prop} {f : Nat → Int} (h : Painted W old new P f) (e : ∀ r c k, P r c → k < 4 → new r c k = new' r c k) : Painted W old new' P f := fun r c k hc hk =>
  ⟨fun hp => ((h r c k hc hk).1 hp).trans (e r c k hp hk), (h r c k hc hk).2⟩
theorem Painted.step4 {W : Nat} {old : Nat → Int} {new : Nat → Nat → Nat → Int} {P P' : Nat → Nat → Prop} {f : Nat → Int} (h : Painted W old new P f) {r0 c0 i : Nat} {a b c d : Int} (hc0 : c0 < W) (hi : pos W r0 c0 0 = i)
    (e : a = new r0 c0 0 ∧ b = new r0 c0 1 ∧ c = new r0 c0 2 ∧ d = new r0 c0 3) (hP : ∀ r c, c < W → ((P r c ∨ (r = r0 ∧ c = c0)) ↔ P' r c)) : Painted W old new P' (fput f i (quad a b c d)) := by
  subst hi
  obtain ⟨rfl, rfl, rfl, rfl⟩ := e
  have h1 := h.step (r0 := r0) (c0 := c0) hc0
  have h2 : fput f (pos W r0 c0 0) (quad (new r0 c0 0) (new r0 c0 1) (new r0 c0 2) (new r0 c0 3)) = fput f (pos W r0 c0 0) (new r0 c0) := by
    funext j
    unfold fput
    by_cases hj : pos W r0 c0 0 ≤ j ∧ j < pos W r0 c0 0 + 4
    · rw [if_pos hj, if_pos hj]
      have h4 : j - pos W r0 c0 0 = 0 ∨ j - pos W r0 c0 0 = 1 ∨ j - pos W r0 c0 0 = 2 ∨ j - pos W r0 c0 0 = 3 := by omega
      rcases h4 with h | h | h | h <;> rw [h] <;> rfl
    · rw [if_neg hj, if_neg hj]
  rw [h2]
  exact h1.congr hP

theorem mul_in' {a b A B : Int} (ha : 0 ≤ a ∧ a ≤ A) (hb : 0 ≤ b ∧ b ≤ B) : 0 ≤ a * b ∧ a * b ≤ A * B :=
  ⟨Int.mul_nonneg ha.1 hb.1, Int.mul_le_mul ha.2 hb.2 hb.1 (by omega)⟩
/-- What Over leaves of a byte of the destination, under a source of alpha a: at most 65535 - a. -/
theorem over_le {t a : Int} (ht : 0 ≤ t ∧ t ≤ 255) (ha : 0 ≤ a ∧ a ≤ 65535) : (0 ≤ t * ((65535 - a) * 257) ∧ t * ((65535 - a) * 257) ≤ 4294836225) ∧ 0 ≤ t * ((65535 - a) * 257) / 65535 ∧ t * ((65535 - a) * 257) / 65535 ≤ 65535 - a := by
  have e : t * ((65535 - a) * 257) = (t * 257) * (65535 - a) := by rw [Int.mul_comm (65535 - a) 257, ← Int.mul_assoc]
  have h1 := mul_in' (a := t * 257) (b := 65535 - a) (A := 65535) (B := 65535 - a) ⟨by omega, by omega⟩ ⟨by omega, by omega⟩
  rw [e]
  generalize t * 257 * (65535 - a) = x at *
  omega
/-- A color times alpha. -/
theorem nmul_le {p s : Int} (hp : 0 ≤ p ∧ p ≤ 255) (hs : 0 ≤ s ∧ s ≤ 255) : (0 ≤ p * (s * 257) ∧ p * (s * 257) ≤ 16711425) ∧ 0 ≤ p * (s * 257) / 255 ∧ p * (s * 257) / 255 ≤ s * 257 := by
  have h1 := mul_in' (a := p) (b := s * 257) (A := 255) (B := s * 257) hp ⟨by omega, by omega⟩
  generalize p * (s * 257) = x at *
  omega
end Go.Proofs.Ytlnfcjaempojgaa
