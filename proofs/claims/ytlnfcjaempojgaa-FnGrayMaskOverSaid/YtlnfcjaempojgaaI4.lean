/- One pixel under a mask, in numbers; a pixel that stays as it is. -/
import Derived.Test.YtlnfcjaempojgaaI2
import Derived.Test.YtlnfcjaempojgaaH1
import Derived.Test.YtlnfcjaempojgaaC3
set_option linter.unusedVariables false
namespace Go.Proofs.Ytlnfcjaempojgaa
open Go.RowKit

theorem ofInt_u32 (a : Nat) (ha : a < 4294967296) : (BitVec.ofInt 32 (a : Int)).toNat = a := by
  rw [BitVec.ofInt_natCast, BitVec.toNat_ofNat]; exact Nat.mod_eq_of_lt (by omega)
theorem u32_or_nat (a b : Nat) (ha : a < 4294967296) (hb : b < 4294967296) : bits .or .u32 (a : Int) (b : Int) = ((a ||| b : Nat) : Int) := by
  have hx : a ||| b < 2 ^ 32 := Nat.or_lt_two_pow (by omega) (by omega)
  show IntKind.u32.wrap ((BitVec.ofInt 32 (a : Int) ||| BitVec.ofInt 32 (b : Int)).toNat : Int) = _
  rw [BitVec.toNat_or, ofInt_u32 a ha, ofInt_u32 b hb, IntWalk.u32_in _ (by omega)]
/-- A byte laid beside itself. -/
theorem twice {b : Int} (hb : 0 ≤ b ∧ b ≤ 255) : bits .or .u32 b (b * 256) = b * 257 := by
  obtain ⟨y, rfl⟩ := Int.eq_ofNat_of_zero_le hb.1
  have e : ((y : Int) * 256) = ((y * 256 : Nat) : Int) := by omega
  rw [e, u32_or_nat _ _ (by omega) (by omega), Nat.or_comm]
  have h := Nat.shiftLeft_add_eq_or_of_lt (i := 8) (b := y) (by omega) y
  rw [Nat.shiftLeft_eq] at h
  rw [show (2 : Nat) ^ 8 = 256 from rfl] at h
  rw [← h]
  omega

/-- What Over makes of a byte under a mask. -/
def maskB (t u a m : Int) : Int := (t * ((65535 - a * (m * 257) / 65535) * 257) + u * (m * 257)) / 65535 / 256

structure MaskF (t u a m : Int) : Prop where
  f1 : 0 ≤ a * (m * 257) ∧ a * (m * 257) ≤ 4294836225
  f2 : 0 ≤ a * (m * 257) / 65535 ∧ a * (m * 257) / 65535 ≤ 65535
  f3 : 0 ≤ t * ((65535 - a * (m * 257) / 65535) * 257) ∧ t * ((65535 - a * (m * 257) / 65535) * 257) ≤ 4294836225
  f4 : 0 ≤ u * (m * 257) ∧ u * (m * 257) ≤ 4294836225
  f5 : t * ((65535 - a * (m * 257) / 65535) * 257) + u * (m * 257) ≤ 4294901759
theorem maskF {t u a m : Int} (ht : 0 ≤ t ∧ t ≤ 255) (ha : 0 ≤ a ∧ a ≤ 65535) (hu : 0 ≤ u ∧ u ≤ a) (hm : 0 ≤ m ∧ m ≤ 255) : MaskF t u a m := by
  have h1 := mul_in ha (b := m * 257) (B := 65535) ⟨by omega, by omega⟩
  have h2 := mul_in hu (b := m * 257) (B := m * 257) ⟨by omega, by omega⟩
  obtain ⟨c, hc⟩ : ∃ c, c = a * (m * 257) / 65535 := ⟨_, rfl⟩
  have hc1 : 0 ≤ c ∧ c ≤ 65535 := by omega
  have e : t * ((65535 - c) * 257) = (t * 257) * (65535 - c) := by rw [Int.mul_comm (65535 - c) 257, ← Int.mul_assoc]
  have h3 := mul_in (a := t * 257) (b := 65535 - c) (A := 65535) (B := 65535 - c) ⟨by omega, by omega⟩ ⟨by omega, by omega⟩
  refine ⟨by omega, by rw [← hc]; exact hc1, by rw [← hc, e]; omega, by omega, ?_⟩
  rw [← hc, e]
  omega
theorem maskB_rng {t u a m : Int} (ht : 0 ≤ t ∧ t ≤ 255) (ha : 0 ≤ a ∧ a ≤ 65535) (hu : 0 ≤ u ∧ u ≤ a) (hm : 0 ≤ m ∧ m ≤ 255) : 0 ≤ maskB t u a m ∧ maskB t u a m ≤ 255 := by
  obtain ⟨f1, f2, f3, f4, f5⟩ := maskF ht ha hu hm
  unfold maskB
  omega
theorem maskB_zero {t u a : Int} (ht : 0 ≤ t ∧ t ≤ 255) : maskB t u a 0 = t := by
  unfold maskB
  simp only [Int.zero_mul, Int.mul_zero, Int.zero_ediv, Int.sub_zero, Int.add_zero]
  omega
theorem mask_near {t u a m : Int} (ht : 0 ≤ t ∧ t ≤ 255) (ha : 0 ≤ a ∧ a ≤ 65535) (hu : 0 ≤ u ∧ u ≤ a) (hm : 0 ≤ m ∧ m ≤ 255) :
    maskB t u a m * 257 * 65535 * 65535 - (u * (m * 257) * 65535 + t * 257 * (4294836225 - a * (m * 257))) ≤ 1655659364700 ∧ (u * (m * 257) * 65535 + t * 257 * (4294836225 - a * (m * 257))) - maskB t u a m * 257 * 65535 * 65535 ≤ 1655659364700 := by
  obtain ⟨f1, f2, f3, f4, f5⟩ := maskF ht ha hu hm
  unfold maskB
  generalize a * (m * 257) = x at *
  generalize u * (m * 257) = y at *
  generalize hc : x / 65535 = c at *
  obtain ⟨r, hr⟩ : ∃ r, r = x - 65535 * c := ⟨_, rfl⟩
  have hr1 : 0 ≤ r ∧ r ≤ 65534 := by omega
  have e1 : t * ((65535 - c) * 257) = t * 257 * 65535 - t * 257 * c := by rw [Int.mul_comm (65535 - c) 257, ← Int.mul_assoc, Int.mul_sub]
  have e2 : t * 257 * (4294836225 - x) = t * 257 * 4294836225 - (65535 * (t * 257 * c) + t * 257 * r) := by
    rw [show x = 65535 * c + r by omega, Int.mul_sub, Int.mul_add, Int.mul_left_comm (t * 257) 65535 c]
  have h3 := mul_in (a := t * 257) (b := r) (A := 65535) (B := 65534) ⟨by omega, by omega⟩ hr1
  rw [e1] at f3 f5 ⊢
  rw [e2]
  generalize t * 257 * c = P at *
  generalize t * 257 * r = R at *
  clear hc hr e1 e2 f1 f2 ha hu hm
  omega

theorem Painted.stay {W : Nat} {old : Nat → Int} {new : Nat → Nat → Nat → Int} {P P' : Nat → Nat → Prop} {f : Nat → Int} (h : Painted W old new P f) {r0 c0 : Nat} (hc0 : c0 < W)
    (e : ∀ j, j < 4 → f (pos W r0 c0 j) = new r0 c0 j) (hP : ∀ r c, c < W → ((P r c ∨ (r = r0 ∧ c = c0)) ↔ P' r c)) : Painted W old new P' f := by
  intro r c k hc hk
  by_cases he : r = r0 ∧ c = c0
  · obtain ⟨rfl, rfl⟩ := he
    exact ⟨fun _ => e k hk, fun hp => absurd ((hP r c hc).1 (Or.inr ⟨rfl, rfl⟩)) hp⟩
  · exact ⟨fun hp => (h r c k hc hk).1 (((hP r c hc).2 hp).resolve_right he), fun hp => (h r c k hc hk).2 fun hp' => hp ((hP r c hc).1 (Or.inl hp'))⟩
end Go.Proofs.Ytlnfcjaempojgaa
